import PyProof.Rows.All
import Wide.All
import OpenK.AllK
import Wide.FinOn
import PySem.Challenge.RW_rt0088_01
set_option Elab.async false
set_option linter.unusedVariables false
set_option compiler.extract_closed false
-- part Top
section
open PySem PySem.W PyProof.Rows
set_option maxRecDepth 100000
set_option maxHeartbeats 8000000
namespace Mine88.hd
/-! places in the program -/
noncomputable def stm (i : Nat) : List Stmt := PySem.Challenge.pw_rt0088_01.main.body.drop i
noncomputable def inn (j : Nat) : List Stmt → List Stmt
  | .ClassDef _ _ _ b _ _ _ _ _ _ _ :: _ => b.drop j
  | .FunctionDef _ _ b _ _ _ _ _ _ _ :: _ => b.drop j
  | _ => []
noncomputable def bodyOf : List Stmt → List Stmt
  | .FunctionDef _ _ b _ _ _ _ _ _ _ :: _ => b
  | _ => []
noncomputable def argsOf : List Stmt → Arguments
  | .FunctionDef _ a _ _ _ _ _ _ _ _ :: _ => a
  | _ => default
noncomputable def scopeOf : List Stmt → Scope
  | .FunctionDef _ _ _ _ _ _ s _ _ _ :: _ => s
  | _ => default
noncomputable def headOf : List Stmt → Stmt
  | s :: _ => s
  | _ => default
/-! a term is written out: the hole is filled by the whnf of the right side -/
local macro_rules | `(tactic| walk_at "lit") => `(tactic| (case F => exact fun x _ => x); (case h => (conv => rhs; whnf)))
noncomputable def b1 : List Stmt := by
  refine' (?F : (x : List Stmt) → x = bodyOf (stm 1) → List Stmt) _ ?h
  walk_at "lit"
noncomputable def a1 : Arguments := by
  refine' (?F : (x : Arguments) → x = argsOf (stm 1) → Arguments) _ ?h
  walk_at "lit"
noncomputable def s1 : Scope := by
  refine' (?F : (x : Scope) → x = scopeOf (stm 1) → Scope) _ ?h
  walk_at "lit"
noncomputable def b5_0 : List Stmt := by
  refine' (?F : (x : List Stmt) → x = bodyOf (inn 0 (stm 5)) → List Stmt) _ ?h
  walk_at "lit"
noncomputable def a5_0 : Arguments := by
  refine' (?F : (x : Arguments) → x = argsOf (inn 0 (stm 5)) → Arguments) _ ?h
  walk_at "lit"
noncomputable def s5_0 : Scope := by
  refine' (?F : (x : Scope) → x = scopeOf (inn 0 (stm 5)) → Scope) _ ?h
  walk_at "lit"
noncomputable def b5_1 : List Stmt := by
  refine' (?F : (x : List Stmt) → x = bodyOf (inn 1 (stm 5)) → List Stmt) _ ?h
  walk_at "lit"
noncomputable def a5_1 : Arguments := by
  refine' (?F : (x : Arguments) → x = argsOf (inn 1 (stm 5)) → Arguments) _ ?h
  walk_at "lit"
noncomputable def s5_1 : Scope := by
  refine' (?F : (x : Scope) → x = scopeOf (inn 1 (stm 5)) → Scope) _ ?h
  walk_at "lit"
noncomputable def b5_2 : List Stmt := by
  refine' (?F : (x : List Stmt) → x = bodyOf (inn 2 (stm 5)) → List Stmt) _ ?h
  walk_at "lit"
noncomputable def a5_2 : Arguments := by
  refine' (?F : (x : Arguments) → x = argsOf (inn 2 (stm 5)) → Arguments) _ ?h
  walk_at "lit"
noncomputable def s5_2 : Scope := by
  refine' (?F : (x : Scope) → x = scopeOf (inn 2 (stm 5)) → Scope) _ ?h
  walk_at "lit"
noncomputable def b5_3 : List Stmt := by
  refine' (?F : (x : List Stmt) → x = bodyOf (inn 3 (stm 5)) → List Stmt) _ ?h
  walk_at "lit"
noncomputable def a5_3 : Arguments := by
  refine' (?F : (x : Arguments) → x = argsOf (inn 3 (stm 5)) → Arguments) _ ?h
  walk_at "lit"
noncomputable def s5_3 : Scope := by
  refine' (?F : (x : Scope) → x = scopeOf (inn 3 (stm 5)) → Scope) _ ?h
  walk_at "lit"
noncomputable def b5_4 : List Stmt := by
  refine' (?F : (x : List Stmt) → x = bodyOf (inn 4 (stm 5)) → List Stmt) _ ?h
  walk_at "lit"
noncomputable def a5_4 : Arguments := by
  refine' (?F : (x : Arguments) → x = argsOf (inn 4 (stm 5)) → Arguments) _ ?h
  walk_at "lit"
noncomputable def s5_4 : Scope := by
  refine' (?F : (x : Scope) → x = scopeOf (inn 4 (stm 5)) → Scope) _ ?h
  walk_at "lit"
noncomputable def b5_5 : List Stmt := by
  refine' (?F : (x : List Stmt) → x = bodyOf (inn 5 (stm 5)) → List Stmt) _ ?h
  walk_at "lit"
noncomputable def a5_5 : Arguments := by
  refine' (?F : (x : Arguments) → x = argsOf (inn 5 (stm 5)) → Arguments) _ ?h
  walk_at "lit"
noncomputable def s5_5 : Scope := by
  refine' (?F : (x : Scope) → x = scopeOf (inn 5 (stm 5)) → Scope) _ ?h
  walk_at "lit"
noncomputable def b5_6 : List Stmt := by
  refine' (?F : (x : List Stmt) → x = bodyOf (inn 6 (stm 5)) → List Stmt) _ ?h
  walk_at "lit"
noncomputable def a5_6 : Arguments := by
  refine' (?F : (x : Arguments) → x = argsOf (inn 6 (stm 5)) → Arguments) _ ?h
  walk_at "lit"
noncomputable def s5_6 : Scope := by
  refine' (?F : (x : Scope) → x = scopeOf (inn 6 (stm 5)) → Scope) _ ?h
  walk_at "lit"
noncomputable def b5_7 : List Stmt := by
  refine' (?F : (x : List Stmt) → x = bodyOf (inn 7 (stm 5)) → List Stmt) _ ?h
  walk_at "lit"
noncomputable def a5_7 : Arguments := by
  refine' (?F : (x : Arguments) → x = argsOf (inn 7 (stm 5)) → Arguments) _ ?h
  walk_at "lit"
noncomputable def s5_7 : Scope := by
  refine' (?F : (x : Scope) → x = scopeOf (inn 7 (stm 5)) → Scope) _ ?h
  walk_at "lit"
noncomputable def b5_8 : List Stmt := by
  refine' (?F : (x : List Stmt) → x = bodyOf (inn 8 (stm 5)) → List Stmt) _ ?h
  walk_at "lit"
noncomputable def a5_8 : Arguments := by
  refine' (?F : (x : Arguments) → x = argsOf (inn 8 (stm 5)) → Arguments) _ ?h
  walk_at "lit"
noncomputable def s5_8 : Scope := by
  refine' (?F : (x : Scope) → x = scopeOf (inn 8 (stm 5)) → Scope) _ ?h
  walk_at "lit"
noncomputable def b5_9 : List Stmt := by
  refine' (?F : (x : List Stmt) → x = bodyOf (inn 9 (stm 5)) → List Stmt) _ ?h
  walk_at "lit"
noncomputable def a5_9 : Arguments := by
  refine' (?F : (x : Arguments) → x = argsOf (inn 9 (stm 5)) → Arguments) _ ?h
  walk_at "lit"
noncomputable def s5_9 : Scope := by
  refine' (?F : (x : Scope) → x = scopeOf (inn 9 (stm 5)) → Scope) _ ?h
  walk_at "lit"
noncomputable def b5_10 : List Stmt := by
  refine' (?F : (x : List Stmt) → x = bodyOf (inn 10 (stm 5)) → List Stmt) _ ?h
  walk_at "lit"
noncomputable def a5_10 : Arguments := by
  refine' (?F : (x : Arguments) → x = argsOf (inn 10 (stm 5)) → Arguments) _ ?h
  walk_at "lit"
noncomputable def s5_10 : Scope := by
  refine' (?F : (x : Scope) → x = scopeOf (inn 10 (stm 5)) → Scope) _ ?h
  walk_at "lit"
noncomputable def b5_11 : List Stmt := by
  refine' (?F : (x : List Stmt) → x = bodyOf (inn 11 (stm 5)) → List Stmt) _ ?h
  walk_at "lit"
noncomputable def a5_11 : Arguments := by
  refine' (?F : (x : Arguments) → x = argsOf (inn 11 (stm 5)) → Arguments) _ ?h
  walk_at "lit"
noncomputable def s5_11 : Scope := by
  refine' (?F : (x : Scope) → x = scopeOf (inn 11 (stm 5)) → Scope) _ ?h
  walk_at "lit"
noncomputable def b5_12 : List Stmt := by
  refine' (?F : (x : List Stmt) → x = bodyOf (inn 12 (stm 5)) → List Stmt) _ ?h
  walk_at "lit"
noncomputable def a5_12 : Arguments := by
  refine' (?F : (x : Arguments) → x = argsOf (inn 12 (stm 5)) → Arguments) _ ?h
  walk_at "lit"
noncomputable def s5_12 : Scope := by
  refine' (?F : (x : Scope) → x = scopeOf (inn 12 (stm 5)) → Scope) _ ?h
  walk_at "lit"
noncomputable def b5_13 : List Stmt := by
  refine' (?F : (x : List Stmt) → x = bodyOf (inn 13 (stm 5)) → List Stmt) _ ?h
  walk_at "lit"
noncomputable def a5_13 : Arguments := by
  refine' (?F : (x : Arguments) → x = argsOf (inn 13 (stm 5)) → Arguments) _ ?h
  walk_at "lit"
noncomputable def s5_13 : Scope := by
  refine' (?F : (x : Scope) → x = scopeOf (inn 13 (stm 5)) → Scope) _ ?h
  walk_at "lit"
noncomputable def b5_14 : List Stmt := by
  refine' (?F : (x : List Stmt) → x = bodyOf (inn 14 (stm 5)) → List Stmt) _ ?h
  walk_at "lit"
noncomputable def a5_14 : Arguments := by
  refine' (?F : (x : Arguments) → x = argsOf (inn 14 (stm 5)) → Arguments) _ ?h
  walk_at "lit"
noncomputable def s5_14 : Scope := by
  refine' (?F : (x : Scope) → x = scopeOf (inn 14 (stm 5)) → Scope) _ ?h
  walk_at "lit"
noncomputable def b5_15 : List Stmt := by
  refine' (?F : (x : List Stmt) → x = bodyOf (inn 15 (stm 5)) → List Stmt) _ ?h
  walk_at "lit"
noncomputable def a5_15 : Arguments := by
  refine' (?F : (x : Arguments) → x = argsOf (inn 15 (stm 5)) → Arguments) _ ?h
  walk_at "lit"
noncomputable def s5_15 : Scope := by
  refine' (?F : (x : Scope) → x = scopeOf (inn 15 (stm 5)) → Scope) _ ?h
  walk_at "lit"
noncomputable def b5_16 : List Stmt := by
  refine' (?F : (x : List Stmt) → x = bodyOf (inn 16 (stm 5)) → List Stmt) _ ?h
  walk_at "lit"
noncomputable def a5_16 : Arguments := by
  refine' (?F : (x : Arguments) → x = argsOf (inn 16 (stm 5)) → Arguments) _ ?h
  walk_at "lit"
noncomputable def s5_16 : Scope := by
  refine' (?F : (x : Scope) → x = scopeOf (inn 16 (stm 5)) → Scope) _ ?h
  walk_at "lit"
noncomputable def b7 : List Stmt := by
  refine' (?F : (x : List Stmt) → x = bodyOf (stm 7) → List Stmt) _ ?h
  walk_at "lit"
noncomputable def a7 : Arguments := by
  refine' (?F : (x : Arguments) → x = argsOf (stm 7) → Arguments) _ ?h
  walk_at "lit"
noncomputable def s7 : Scope := by
  refine' (?F : (x : Scope) → x = scopeOf (stm 7) → Scope) _ ?h
  walk_at "lit"
noncomputable def b8 : List Stmt := by
  refine' (?F : (x : List Stmt) → x = bodyOf (stm 8) → List Stmt) _ ?h
  walk_at "lit"
noncomputable def a8 : Arguments := by
  refine' (?F : (x : Arguments) → x = argsOf (stm 8) → Arguments) _ ?h
  walk_at "lit"
noncomputable def s8 : Scope := by
  refine' (?F : (x : Scope) → x = scopeOf (stm 8) → Scope) _ ?h
  walk_at "lit"
noncomputable def b10 : List Stmt := by
  refine' (?F : (x : List Stmt) → x = bodyOf (stm 10) → List Stmt) _ ?h
  walk_at "lit"
noncomputable def a10 : Arguments := by
  refine' (?F : (x : Arguments) → x = argsOf (stm 10) → Arguments) _ ?h
  walk_at "lit"
noncomputable def s10 : Scope := by
  refine' (?F : (x : Scope) → x = scopeOf (stm 10) → Scope) _ ?h
  walk_at "lit"
noncomputable def b12 : List Stmt := by
  refine' (?F : (x : List Stmt) → x = bodyOf (stm 12) → List Stmt) _ ?h
  walk_at "lit"
noncomputable def a12 : Arguments := by
  refine' (?F : (x : Arguments) → x = argsOf (stm 12) → Arguments) _ ?h
  walk_at "lit"
noncomputable def s12 : Scope := by
  refine' (?F : (x : Scope) → x = scopeOf (stm 12) → Scope) _ ?h
  walk_at "lit"
noncomputable def b14 : List Stmt := by
  refine' (?F : (x : List Stmt) → x = bodyOf (stm 14) → List Stmt) _ ?h
  walk_at "lit"
noncomputable def a14 : Arguments := by
  refine' (?F : (x : Arguments) → x = argsOf (stm 14) → Arguments) _ ?h
  walk_at "lit"
noncomputable def s14 : Scope := by
  refine' (?F : (x : Scope) → x = scopeOf (stm 14) → Scope) _ ?h
  walk_at "lit"
noncomputable def b16 : List Stmt := by
  refine' (?F : (x : List Stmt) → x = bodyOf (stm 16) → List Stmt) _ ?h
  walk_at "lit"
noncomputable def a16 : Arguments := by
  refine' (?F : (x : Arguments) → x = argsOf (stm 16) → Arguments) _ ?h
  walk_at "lit"
noncomputable def s16 : Scope := by
  refine' (?F : (x : Scope) → x = scopeOf (stm 16) → Scope) _ ?h
  walk_at "lit"
noncomputable def b18_0 : List Stmt := by
  refine' (?F : (x : List Stmt) → x = bodyOf (inn 0 (stm 18)) → List Stmt) _ ?h
  walk_at "lit"
noncomputable def a18_0 : Arguments := by
  refine' (?F : (x : Arguments) → x = argsOf (inn 0 (stm 18)) → Arguments) _ ?h
  walk_at "lit"
noncomputable def s18_0 : Scope := by
  refine' (?F : (x : Scope) → x = scopeOf (inn 0 (stm 18)) → Scope) _ ?h
  walk_at "lit"
noncomputable def b20_0 : List Stmt := by
  refine' (?F : (x : List Stmt) → x = bodyOf (inn 0 (stm 20)) → List Stmt) _ ?h
  walk_at "lit"
noncomputable def a20_0 : Arguments := by
  refine' (?F : (x : Arguments) → x = argsOf (inn 0 (stm 20)) → Arguments) _ ?h
  walk_at "lit"
noncomputable def s20_0 : Scope := by
  refine' (?F : (x : Scope) → x = scopeOf (inn 0 (stm 20)) → Scope) _ ?h
  walk_at "lit"
noncomputable def b20_1 : List Stmt := by
  refine' (?F : (x : List Stmt) → x = bodyOf (inn 1 (stm 20)) → List Stmt) _ ?h
  walk_at "lit"
noncomputable def a20_1 : Arguments := by
  refine' (?F : (x : Arguments) → x = argsOf (inn 1 (stm 20)) → Arguments) _ ?h
  walk_at "lit"
noncomputable def s20_1 : Scope := by
  refine' (?F : (x : Scope) → x = scopeOf (inn 1 (stm 20)) → Scope) _ ?h
  walk_at "lit"
noncomputable def b20_2 : List Stmt := by
  refine' (?F : (x : List Stmt) → x = bodyOf (inn 2 (stm 20)) → List Stmt) _ ?h
  walk_at "lit"
noncomputable def a20_2 : Arguments := by
  refine' (?F : (x : Arguments) → x = argsOf (inn 2 (stm 20)) → Arguments) _ ?h
  walk_at "lit"
noncomputable def s20_2 : Scope := by
  refine' (?F : (x : Scope) → x = scopeOf (inn 2 (stm 20)) → Scope) _ ?h
  walk_at "lit"
noncomputable def b21 : List Stmt := by
  refine' (?F : (x : List Stmt) → x = bodyOf (stm 21) → List Stmt) _ ?h
  walk_at "lit"
noncomputable def a21 : Arguments := by
  refine' (?F : (x : Arguments) → x = argsOf (stm 21) → Arguments) _ ?h
  walk_at "lit"
noncomputable def s21 : Scope := by
  refine' (?F : (x : Scope) → x = scopeOf (stm 21) → Scope) _ ?h
  walk_at "lit"
noncomputable def b23 : List Stmt := by
  refine' (?F : (x : List Stmt) → x = bodyOf (stm 23) → List Stmt) _ ?h
  walk_at "lit"
noncomputable def a23 : Arguments := by
  refine' (?F : (x : Arguments) → x = argsOf (stm 23) → Arguments) _ ?h
  walk_at "lit"
noncomputable def s23 : Scope := by
  refine' (?F : (x : Scope) → x = scopeOf (stm 23) → Scope) _ ?h
  walk_at "lit"
noncomputable def b25 : List Stmt := by
  refine' (?F : (x : List Stmt) → x = bodyOf (stm 25) → List Stmt) _ ?h
  walk_at "lit"
noncomputable def a25 : Arguments := by
  refine' (?F : (x : Arguments) → x = argsOf (stm 25) → Arguments) _ ?h
  walk_at "lit"
noncomputable def s25 : Scope := by
  refine' (?F : (x : Scope) → x = scopeOf (stm 25) → Scope) _ ?h
  walk_at "lit"
noncomputable def b27 : List Stmt := by
  refine' (?F : (x : List Stmt) → x = bodyOf (stm 27) → List Stmt) _ ?h
  walk_at "lit"
noncomputable def a27 : Arguments := by
  refine' (?F : (x : Arguments) → x = argsOf (stm 27) → Arguments) _ ?h
  walk_at "lit"
noncomputable def s27 : Scope := by
  refine' (?F : (x : Scope) → x = scopeOf (stm 27) → Scope) _ ?h
  walk_at "lit"
noncomputable def b28 : List Stmt := by
  refine' (?F : (x : List Stmt) → x = bodyOf (stm 28) → List Stmt) _ ?h
  walk_at "lit"
noncomputable def a28 : Arguments := by
  refine' (?F : (x : Arguments) → x = argsOf (stm 28) → Arguments) _ ?h
  walk_at "lit"
noncomputable def s28 : Scope := by
  refine' (?F : (x : Scope) → x = scopeOf (stm 28) → Scope) _ ?h
  walk_at "lit"
noncomputable def b29 : List Stmt := by
  refine' (?F : (x : List Stmt) → x = bodyOf (stm 29) → List Stmt) _ ?h
  walk_at "lit"
noncomputable def a29 : Arguments := by
  refine' (?F : (x : Arguments) → x = argsOf (stm 29) → Arguments) _ ?h
  walk_at "lit"
noncomputable def s29 : Scope := by
  refine' (?F : (x : Scope) → x = scopeOf (stm 29) → Scope) _ ?h
  walk_at "lit"
noncomputable def b31 : List Stmt := by
  refine' (?F : (x : List Stmt) → x = bodyOf (stm 31) → List Stmt) _ ?h
  walk_at "lit"
noncomputable def a31 : Arguments := by
  refine' (?F : (x : Arguments) → x = argsOf (stm 31) → Arguments) _ ?h
  walk_at "lit"
noncomputable def s31 : Scope := by
  refine' (?F : (x : Scope) → x = scopeOf (stm 31) → Scope) _ ?h
  walk_at "lit"
noncomputable def b32 : List Stmt := by
  refine' (?F : (x : List Stmt) → x = bodyOf (stm 32) → List Stmt) _ ?h
  walk_at "lit"
noncomputable def a32 : Arguments := by
  refine' (?F : (x : Arguments) → x = argsOf (stm 32) → Arguments) _ ?h
  walk_at "lit"
noncomputable def s32 : Scope := by
  refine' (?F : (x : Scope) → x = scopeOf (stm 32) → Scope) _ ?h
  walk_at "lit"
noncomputable def b33 : List Stmt := by
  refine' (?F : (x : List Stmt) → x = bodyOf (stm 33) → List Stmt) _ ?h
  walk_at "lit"
noncomputable def a33 : Arguments := by
  refine' (?F : (x : Arguments) → x = argsOf (stm 33) → Arguments) _ ?h
  walk_at "lit"
noncomputable def s33 : Scope := by
  refine' (?F : (x : Scope) → x = scopeOf (stm 33) → Scope) _ ?h
  walk_at "lit"
noncomputable def b34 : List Stmt := by
  refine' (?F : (x : List Stmt) → x = bodyOf (stm 34) → List Stmt) _ ?h
  walk_at "lit"
noncomputable def a34 : Arguments := by
  refine' (?F : (x : Arguments) → x = argsOf (stm 34) → Arguments) _ ?h
  walk_at "lit"
noncomputable def s34 : Scope := by
  refine' (?F : (x : Scope) → x = scopeOf (stm 34) → Scope) _ ?h
  walk_at "lit"
noncomputable def b35 : List Stmt := by
  refine' (?F : (x : List Stmt) → x = bodyOf (stm 35) → List Stmt) _ ?h
  walk_at "lit"
noncomputable def a35 : Arguments := by
  refine' (?F : (x : Arguments) → x = argsOf (stm 35) → Arguments) _ ?h
  walk_at "lit"
noncomputable def s35 : Scope := by
  refine' (?F : (x : Scope) → x = scopeOf (stm 35) → Scope) _ ?h
  walk_at "lit"
noncomputable def b36 : List Stmt := by
  refine' (?F : (x : List Stmt) → x = bodyOf (stm 36) → List Stmt) _ ?h
  walk_at "lit"
noncomputable def a36 : Arguments := by
  refine' (?F : (x : Arguments) → x = argsOf (stm 36) → Arguments) _ ?h
  walk_at "lit"
noncomputable def s36 : Scope := by
  refine' (?F : (x : Scope) → x = scopeOf (stm 36) → Scope) _ ?h
  walk_at "lit"
noncomputable def b37 : List Stmt := by
  refine' (?F : (x : List Stmt) → x = bodyOf (stm 37) → List Stmt) _ ?h
  walk_at "lit"
noncomputable def a37 : Arguments := by
  refine' (?F : (x : Arguments) → x = argsOf (stm 37) → Arguments) _ ?h
  walk_at "lit"
noncomputable def s37 : Scope := by
  refine' (?F : (x : Scope) → x = scopeOf (stm 37) → Scope) _ ?h
  walk_at "lit"
noncomputable def b38 : List Stmt := by
  refine' (?F : (x : List Stmt) → x = bodyOf (stm 38) → List Stmt) _ ?h
  walk_at "lit"
noncomputable def a38 : Arguments := by
  refine' (?F : (x : Arguments) → x = argsOf (stm 38) → Arguments) _ ?h
  walk_at "lit"
noncomputable def s38 : Scope := by
  refine' (?F : (x : Scope) → x = scopeOf (stm 38) → Scope) _ ?h
  walk_at "lit"
noncomputable def o0_0 : Params → Obj := fun P => (Obj.mk (Value.type "dict") none (Data.dict (List.toArray ((DictEntry.mk (PyData.keyHash P (Str.ofString "__name__")) (Value.str (Str.ofString "__name__") 1) (Value.str (Str.ofString "builtins") 160)) :: (DictEntry.mk (PyData.keyHash P (Str.ofString "__doc__")) (Value.str (Str.ofString "__doc__") 2) (Value.builtin "builtins.__doc__:str#opaque")) :: (DictEntry.mk (PyData.keyHash P (Str.ofString "__package__")) (Value.str (Str.ofString "__package__") 3) (Value.builtin "builtins.__package__:str#opaque")) :: (DictEntry.mk (PyData.keyHash P (Str.ofString "__loader__")) (Value.str (Str.ofString "__loader__") 4) (Value.builtin "builtins.__loader__:shared#opaque")) :: (DictEntry.mk (PyData.keyHash P (Str.ofString "__spec__")) (Value.str (Str.ofString "__spec__") 5) (Value.builtin "builtins.__spec__#opaque")) :: (DictEntry.mk (PyData.keyHash P (Str.ofString "__build_class__")) (Value.str (Str.ofString "__build_class__") 6) (Value.builtin "__build_class__")) :: (DictEntry.mk (PyData.keyHash P (Str.ofString "__import__")) (Value.str (Str.ofString "__import__") 7) (Value.builtin "__import__")) :: (DictEntry.mk (PyData.keyHash P (Str.ofString "abs")) (Value.str (Str.ofString "abs") 8) (Value.builtin "abs")) :: (DictEntry.mk (PyData.keyHash P (Str.ofString "all")) (Value.str (Str.ofString "all") 9) (Value.builtin "all")) :: (DictEntry.mk (PyData.keyHash P (Str.ofString "any")) (Value.str (Str.ofString "any") 10) (Value.builtin "any")) :: (DictEntry.mk (PyData.keyHash P (Str.ofString "ascii")) (Value.str (Str.ofString "ascii") 11) (Value.builtin "ascii")) :: (DictEntry.mk (PyData.keyHash P (Str.ofString "bin")) (Value.str (Str.ofString "bin") 12) (Value.builtin "bin")) :: (DictEntry.mk (PyData.keyHash P (Str.ofString "breakpoint")) (Value.str (Str.ofString "breakpoint") 13) (Value.builtin "breakpoint")) :: (DictEntry.mk (PyData.keyHash P (Str.ofString "callable")) (Value.str (Str.ofString "callable") 14) (Value.builtin "callable")) :: (DictEntry.mk (PyData.keyHash P (Str.ofString "chr")) (Value.str (Str.ofString "chr") 15) (Value.builtin "chr")) :: (DictEntry.mk (PyData.keyHash P (Str.ofString "compile")) (Value.str (Str.ofString "compile") 16) (Value.builtin "compile")) :: (DictEntry.mk (PyData.keyHash P (Str.ofString "delattr")) (Value.str (Str.ofString "delattr") 17) (Value.builtin "delattr")) :: (DictEntry.mk (PyData.keyHash P (Str.ofString "dir")) (Value.str (Str.ofString "dir") 18) (Value.builtin "dir")) :: (DictEntry.mk (PyData.keyHash P (Str.ofString "divmod")) (Value.str (Str.ofString "divmod") 19) (Value.builtin "divmod")) :: (DictEntry.mk (PyData.keyHash P (Str.ofString "eval")) (Value.str (Str.ofString "eval") 20) (Value.builtin "eval")) :: (DictEntry.mk (PyData.keyHash P (Str.ofString "exec")) (Value.str (Str.ofString "exec") 21) (Value.builtin "exec")) :: (DictEntry.mk (PyData.keyHash P (Str.ofString "format")) (Value.str (Str.ofString "format") 22) (Value.builtin "format")) :: (DictEntry.mk (PyData.keyHash P (Str.ofString "getattr")) (Value.str (Str.ofString "getattr") 23) (Value.builtin "getattr")) :: (DictEntry.mk (PyData.keyHash P (Str.ofString "globals")) (Value.str (Str.ofString "globals") 24) (Value.builtin "globals")) :: (DictEntry.mk (PyData.keyHash P (Str.ofString "hasattr")) (Value.str (Str.ofString "hasattr") 25) (Value.builtin "hasattr")) :: (DictEntry.mk (PyData.keyHash P (Str.ofString "hash")) (Value.str (Str.ofString "hash") 26) (Value.builtin "hash")) :: (DictEntry.mk (PyData.keyHash P (Str.ofString "hex")) (Value.str (Str.ofString "hex") 27) (Value.builtin "hex")) :: (DictEntry.mk (PyData.keyHash P (Str.ofString "id")) (Value.str (Str.ofString "id") 28) (Value.builtin "id")) :: (DictEntry.mk (PyData.keyHash P (Str.ofString "input")) (Value.str (Str.ofString "input") 29) (Value.builtin "input")) :: (DictEntry.mk (PyData.keyHash P (Str.ofString "isinstance")) (Value.str (Str.ofString "isinstance") 30) (Value.builtin "isinstance")) :: (DictEntry.mk (PyData.keyHash P (Str.ofString "issubclass")) (Value.str (Str.ofString "issubclass") 31) (Value.builtin "issubclass")) :: (DictEntry.mk (PyData.keyHash P (Str.ofString "iter")) (Value.str (Str.ofString "iter") 32) (Value.builtin "iter")) :: (DictEntry.mk (PyData.keyHash P (Str.ofString "aiter")) (Value.str (Str.ofString "aiter") 33) (Value.builtin "aiter")) :: (DictEntry.mk (PyData.keyHash P (Str.ofString "len")) (Value.str (Str.ofString "len") 34) (Value.builtin "len")) :: (DictEntry.mk (PyData.keyHash P (Str.ofString "locals")) (Value.str (Str.ofString "locals") 35) (Value.builtin "locals")) :: (DictEntry.mk (PyData.keyHash P (Str.ofString "max")) (Value.str (Str.ofString "max") 36) (Value.builtin "max")) :: (DictEntry.mk (PyData.keyHash P (Str.ofString "min")) (Value.str (Str.ofString "min") 37) (Value.builtin "min")) :: (DictEntry.mk (PyData.keyHash P (Str.ofString "next")) (Value.str (Str.ofString "next") 38) (Value.builtin "next")) :: (DictEntry.mk (PyData.keyHash P (Str.ofString "anext")) (Value.str (Str.ofString "anext") 39) (Value.builtin "anext")) :: (DictEntry.mk (PyData.keyHash P (Str.ofString "oct")) (Value.str (Str.ofString "oct") 40) (Value.builtin "oct")) :: (DictEntry.mk (PyData.keyHash P (Str.ofString "ord")) (Value.str (Str.ofString "ord") 41) (Value.builtin "ord")) :: (DictEntry.mk (PyData.keyHash P (Str.ofString "pow")) (Value.str (Str.ofString "pow") 42) (Value.builtin "pow")) :: (DictEntry.mk (PyData.keyHash P (Str.ofString "print")) (Value.str (Str.ofString "print") 43) (Value.builtin "print")) :: (DictEntry.mk (PyData.keyHash P (Str.ofString "repr")) (Value.str (Str.ofString "repr") 44) (Value.builtin "repr")) :: (DictEntry.mk (PyData.keyHash P (Str.ofString "round")) (Value.str (Str.ofString "round") 45) (Value.builtin "round")) :: (DictEntry.mk (PyData.keyHash P (Str.ofString "setattr")) (Value.str (Str.ofString "setattr") 46) (Value.builtin "setattr")) :: (DictEntry.mk (PyData.keyHash P (Str.ofString "sorted")) (Value.str (Str.ofString "sorted") 47) (Value.builtin "sorted")) :: (DictEntry.mk (PyData.keyHash P (Str.ofString "sum")) (Value.str (Str.ofString "sum") 48) (Value.builtin "sum")) :: (DictEntry.mk (PyData.keyHash P (Str.ofString "vars")) (Value.str (Str.ofString "vars") 49) (Value.builtin "vars")) :: (DictEntry.mk (PyData.keyHash P (Str.ofString "None")) (Value.str (Str.ofString "None") 50) Value.none) :: (DictEntry.mk (PyData.keyHash P (Str.ofString "Ellipsis")) (Value.str (Str.ofString "Ellipsis") 51) Value.ellipsis) :: (DictEntry.mk (PyData.keyHash P (Str.ofString "NotImplemented")) (Value.str (Str.ofString "NotImplemented") 52) Value.notImplemented) :: (DictEntry.mk (PyData.keyHash P (Str.ofString "False")) (Value.str (Str.ofString "False") 53) (Value.bool Bool.false)) :: (DictEntry.mk (PyData.keyHash P (Str.ofString "True")) (Value.str (Str.ofString "True") 54) (Value.bool Bool.true)) :: (DictEntry.mk (PyData.keyHash P (Str.ofString "bool")) (Value.str (Str.ofString "bool") 55) (Value.type "bool")) :: (DictEntry.mk (PyData.keyHash P (Str.ofString "memoryview")) (Value.str (Str.ofString "memoryview") 56) (Value.type "memoryview")) :: (DictEntry.mk (PyData.keyHash P (Str.ofString "bytearray")) (Value.str (Str.ofString "bytearray") 57) (Value.type "bytearray")) :: (DictEntry.mk (PyData.keyHash P (Str.ofString "bytes")) (Value.str (Str.ofString "bytes") 58) (Value.type "bytes")) :: (DictEntry.mk (PyData.keyHash P (Str.ofString "classmethod")) (Value.str (Str.ofString "classmethod") 59) (Value.type "classmethod")) :: (DictEntry.mk (PyData.keyHash P (Str.ofString "complex")) (Value.str (Str.ofString "complex") 60) (Value.type "complex")) :: (DictEntry.mk (PyData.keyHash P (Str.ofString "dict")) (Value.str (Str.ofString "dict") 61) (Value.type "dict")) :: (DictEntry.mk (PyData.keyHash P (Str.ofString "enumerate")) (Value.str (Str.ofString "enumerate") 62) (Value.type "enumerate")) :: (DictEntry.mk (PyData.keyHash P (Str.ofString "filter")) (Value.str (Str.ofString "filter") 63) (Value.type "filter")) :: (DictEntry.mk (PyData.keyHash P (Str.ofString "float")) (Value.str (Str.ofString "float") 64) (Value.type "float")) :: (DictEntry.mk (PyData.keyHash P (Str.ofString "frozenset")) (Value.str (Str.ofString "frozenset") 65) (Value.type "frozenset")) :: (DictEntry.mk (PyData.keyHash P (Str.ofString "property")) (Value.str (Str.ofString "property") 66) (Value.type "property")) :: (DictEntry.mk (PyData.keyHash P (Str.ofString "int")) (Value.str (Str.ofString "int") 67) (Value.type "int")) :: (DictEntry.mk (PyData.keyHash P (Str.ofString "list")) (Value.str (Str.ofString "list") 68) (Value.type "list")) :: (DictEntry.mk (PyData.keyHash P (Str.ofString "map")) (Value.str (Str.ofString "map") 69) (Value.type "map")) :: (DictEntry.mk (PyData.keyHash P (Str.ofString "object")) (Value.str (Str.ofString "object") 70) (Value.type "object")) :: (DictEntry.mk (PyData.keyHash P (Str.ofString "range")) (Value.str (Str.ofString "range") 71) (Value.type "range")) :: (DictEntry.mk (PyData.keyHash P (Str.ofString "reversed")) (Value.str (Str.ofString "reversed") 72) (Value.type "reversed")) :: (DictEntry.mk (PyData.keyHash P (Str.ofString "set")) (Value.str (Str.ofString "set") 73) (Value.type "set")) :: (DictEntry.mk (PyData.keyHash P (Str.ofString "slice")) (Value.str (Str.ofString "slice") 74) (Value.type "slice")) :: (DictEntry.mk (PyData.keyHash P (Str.ofString "staticmethod")) (Value.str (Str.ofString "staticmethod") 75) (Value.type "staticmethod")) :: (DictEntry.mk (PyData.keyHash P (Str.ofString "str")) (Value.str (Str.ofString "str") 76) (Value.type "str")) :: (DictEntry.mk (PyData.keyHash P (Str.ofString "super")) (Value.str (Str.ofString "super") 77) (Value.type "super")) :: (DictEntry.mk (PyData.keyHash P (Str.ofString "tuple")) (Value.str (Str.ofString "tuple") 78) (Value.type "tuple")) :: (DictEntry.mk (PyData.keyHash P (Str.ofString "type")) (Value.str (Str.ofString "type") 79) (Value.type "type")) :: (DictEntry.mk (PyData.keyHash P (Str.ofString "zip")) (Value.str (Str.ofString "zip") 80) (Value.type "zip")) :: (DictEntry.mk (PyData.keyHash P (Str.ofString "__debug__")) (Value.str (Str.ofString "__debug__") 81) (Value.bool Bool.true)) :: (DictEntry.mk (PyData.keyHash P (Str.ofString "BaseException")) (Value.str (Str.ofString "BaseException") 82) (Value.type "BaseException")) :: (DictEntry.mk (PyData.keyHash P (Str.ofString "BaseExceptionGroup")) (Value.str (Str.ofString "BaseExceptionGroup") 83) (Value.type "BaseExceptionGroup")) :: (DictEntry.mk (PyData.keyHash P (Str.ofString "Exception")) (Value.str (Str.ofString "Exception") 84) (Value.type "Exception")) :: (DictEntry.mk (PyData.keyHash P (Str.ofString "GeneratorExit")) (Value.str (Str.ofString "GeneratorExit") 85) (Value.type "GeneratorExit")) :: (DictEntry.mk (PyData.keyHash P (Str.ofString "KeyboardInterrupt")) (Value.str (Str.ofString "KeyboardInterrupt") 86) (Value.type "KeyboardInterrupt")) :: (DictEntry.mk (PyData.keyHash P (Str.ofString "SystemExit")) (Value.str (Str.ofString "SystemExit") 87) (Value.type "SystemExit")) :: (DictEntry.mk (PyData.keyHash P (Str.ofString "ArithmeticError")) (Value.str (Str.ofString "ArithmeticError") 88) (Value.type "ArithmeticError")) :: (DictEntry.mk (PyData.keyHash P (Str.ofString "AssertionError")) (Value.str (Str.ofString "AssertionError") 89) (Value.type "AssertionError")) :: (DictEntry.mk (PyData.keyHash P (Str.ofString "AttributeError")) (Value.str (Str.ofString "AttributeError") 90) (Value.type "AttributeError")) :: (DictEntry.mk (PyData.keyHash P (Str.ofString "BufferError")) (Value.str (Str.ofString "BufferError") 91) (Value.type "BufferError")) :: (DictEntry.mk (PyData.keyHash P (Str.ofString "EOFError")) (Value.str (Str.ofString "EOFError") 92) (Value.type "EOFError")) :: (DictEntry.mk (PyData.keyHash P (Str.ofString "ImportError")) (Value.str (Str.ofString "ImportError") 93) (Value.type "ImportError")) :: (DictEntry.mk (PyData.keyHash P (Str.ofString "LookupError")) (Value.str (Str.ofString "LookupError") 94) (Value.type "LookupError")) :: (DictEntry.mk (PyData.keyHash P (Str.ofString "MemoryError")) (Value.str (Str.ofString "MemoryError") 95) (Value.type "MemoryError")) :: (DictEntry.mk (PyData.keyHash P (Str.ofString "NameError")) (Value.str (Str.ofString "NameError") 96) (Value.type "NameError")) :: (DictEntry.mk (PyData.keyHash P (Str.ofString "OSError")) (Value.str (Str.ofString "OSError") 97) (Value.type "OSError")) :: (DictEntry.mk (PyData.keyHash P (Str.ofString "ReferenceError")) (Value.str (Str.ofString "ReferenceError") 98) (Value.type "ReferenceError")) :: (DictEntry.mk (PyData.keyHash P (Str.ofString "RuntimeError")) (Value.str (Str.ofString "RuntimeError") 99) (Value.type "RuntimeError")) :: (DictEntry.mk (PyData.keyHash P (Str.ofString "StopAsyncIteration")) (Value.str (Str.ofString "StopAsyncIteration") 100) (Value.type "StopAsyncIteration")) :: (DictEntry.mk (PyData.keyHash P (Str.ofString "StopIteration")) (Value.str (Str.ofString "StopIteration") 101) (Value.type "StopIteration")) :: (DictEntry.mk (PyData.keyHash P (Str.ofString "SyntaxError")) (Value.str (Str.ofString "SyntaxError") 102) (Value.type "SyntaxError")) :: (DictEntry.mk (PyData.keyHash P (Str.ofString "SystemError")) (Value.str (Str.ofString "SystemError") 103) (Value.type "SystemError")) :: (DictEntry.mk (PyData.keyHash P (Str.ofString "TypeError")) (Value.str (Str.ofString "TypeError") 104) (Value.type "TypeError")) :: (DictEntry.mk (PyData.keyHash P (Str.ofString "ValueError")) (Value.str (Str.ofString "ValueError") 105) (Value.type "ValueError")) :: (DictEntry.mk (PyData.keyHash P (Str.ofString "Warning")) (Value.str (Str.ofString "Warning") 106) (Value.type "Warning")) :: (DictEntry.mk (PyData.keyHash P (Str.ofString "FloatingPointError")) (Value.str (Str.ofString "FloatingPointError") 107) (Value.type "FloatingPointError")) :: (DictEntry.mk (PyData.keyHash P (Str.ofString "OverflowError")) (Value.str (Str.ofString "OverflowError") 108) (Value.type "OverflowError")) :: (DictEntry.mk (PyData.keyHash P (Str.ofString "ZeroDivisionError")) (Value.str (Str.ofString "ZeroDivisionError") 109) (Value.type "ZeroDivisionError")) :: (DictEntry.mk (PyData.keyHash P (Str.ofString "BytesWarning")) (Value.str (Str.ofString "BytesWarning") 110) (Value.type "BytesWarning")) :: (DictEntry.mk (PyData.keyHash P (Str.ofString "DeprecationWarning")) (Value.str (Str.ofString "DeprecationWarning") 111) (Value.type "DeprecationWarning")) :: (DictEntry.mk (PyData.keyHash P (Str.ofString "EncodingWarning")) (Value.str (Str.ofString "EncodingWarning") 112) (Value.type "EncodingWarning")) :: (DictEntry.mk (PyData.keyHash P (Str.ofString "FutureWarning")) (Value.str (Str.ofString "FutureWarning") 113) (Value.type "FutureWarning")) :: (DictEntry.mk (PyData.keyHash P (Str.ofString "ImportWarning")) (Value.str (Str.ofString "ImportWarning") 114) (Value.type "ImportWarning")) :: (DictEntry.mk (PyData.keyHash P (Str.ofString "PendingDeprecationWarning")) (Value.str (Str.ofString "PendingDeprecationWarning") 115) (Value.type "PendingDeprecationWarning")) :: (DictEntry.mk (PyData.keyHash P (Str.ofString "ResourceWarning")) (Value.str (Str.ofString "ResourceWarning") 116) (Value.type "ResourceWarning")) :: (DictEntry.mk (PyData.keyHash P (Str.ofString "RuntimeWarning")) (Value.str (Str.ofString "RuntimeWarning") 117) (Value.type "RuntimeWarning")) :: (DictEntry.mk (PyData.keyHash P (Str.ofString "SyntaxWarning")) (Value.str (Str.ofString "SyntaxWarning") 118) (Value.type "SyntaxWarning")) :: (DictEntry.mk (PyData.keyHash P (Str.ofString "UnicodeWarning")) (Value.str (Str.ofString "UnicodeWarning") 119) (Value.type "UnicodeWarning")) :: (DictEntry.mk (PyData.keyHash P (Str.ofString "UserWarning")) (Value.str (Str.ofString "UserWarning") 120) (Value.type "UserWarning")) :: (DictEntry.mk (PyData.keyHash P (Str.ofString "BlockingIOError")) (Value.str (Str.ofString "BlockingIOError") 121) (Value.type "BlockingIOError")) :: (DictEntry.mk (PyData.keyHash P (Str.ofString "ChildProcessError")) (Value.str (Str.ofString "ChildProcessError") 122) (Value.type "ChildProcessError")) :: (DictEntry.mk (PyData.keyHash P (Str.ofString "ConnectionError")) (Value.str (Str.ofString "ConnectionError") 123) (Value.type "ConnectionError")) :: (DictEntry.mk (PyData.keyHash P (Str.ofString "FileExistsError")) (Value.str (Str.ofString "FileExistsError") 124) (Value.type "FileExistsError")) :: (DictEntry.mk (PyData.keyHash P (Str.ofString "FileNotFoundError")) (Value.str (Str.ofString "FileNotFoundError") 125) (Value.type "FileNotFoundError")) :: (DictEntry.mk (PyData.keyHash P (Str.ofString "InterruptedError")) (Value.str (Str.ofString "InterruptedError") 126) (Value.type "InterruptedError")) :: (DictEntry.mk (PyData.keyHash P (Str.ofString "IsADirectoryError")) (Value.str (Str.ofString "IsADirectoryError") 127) (Value.type "IsADirectoryError")) :: (DictEntry.mk (PyData.keyHash P (Str.ofString "NotADirectoryError")) (Value.str (Str.ofString "NotADirectoryError") 128) (Value.type "NotADirectoryError")) :: (DictEntry.mk (PyData.keyHash P (Str.ofString "PermissionError")) (Value.str (Str.ofString "PermissionError") 129) (Value.type "PermissionError")) :: (DictEntry.mk (PyData.keyHash P (Str.ofString "ProcessLookupError")) (Value.str (Str.ofString "ProcessLookupError") 130) (Value.type "ProcessLookupError")) :: (DictEntry.mk (PyData.keyHash P (Str.ofString "TimeoutError")) (Value.str (Str.ofString "TimeoutError") 131) (Value.type "TimeoutError")) :: (DictEntry.mk (PyData.keyHash P (Str.ofString "IndentationError")) (Value.str (Str.ofString "IndentationError") 132) (Value.type "IndentationError")) :: (DictEntry.mk (PyData.keyHash P (Str.ofString "_IncompleteInputError")) (Value.str (Str.ofString "_IncompleteInputError") 133) (Value.type "_IncompleteInputError")) :: (DictEntry.mk (PyData.keyHash P (Str.ofString "IndexError")) (Value.str (Str.ofString "IndexError") 134) (Value.type "IndexError")) :: (DictEntry.mk (PyData.keyHash P (Str.ofString "KeyError")) (Value.str (Str.ofString "KeyError") 135) (Value.type "KeyError")) :: (DictEntry.mk (PyData.keyHash P (Str.ofString "ModuleNotFoundError")) (Value.str (Str.ofString "ModuleNotFoundError") 136) (Value.type "ModuleNotFoundError")) :: (DictEntry.mk (PyData.keyHash P (Str.ofString "NotImplementedError")) (Value.str (Str.ofString "NotImplementedError") 137) (Value.type "NotImplementedError")) :: (DictEntry.mk (PyData.keyHash P (Str.ofString "PythonFinalizationError")) (Value.str (Str.ofString "PythonFinalizationError") 138) (Value.type "PythonFinalizationError")) :: (DictEntry.mk (PyData.keyHash P (Str.ofString "RecursionError")) (Value.str (Str.ofString "RecursionError") 139) (Value.type "RecursionError")) :: (DictEntry.mk (PyData.keyHash P (Str.ofString "UnboundLocalError")) (Value.str (Str.ofString "UnboundLocalError") 140) (Value.type "UnboundLocalError")) :: (DictEntry.mk (PyData.keyHash P (Str.ofString "UnicodeError")) (Value.str (Str.ofString "UnicodeError") 141) (Value.type "UnicodeError")) :: (DictEntry.mk (PyData.keyHash P (Str.ofString "BrokenPipeError")) (Value.str (Str.ofString "BrokenPipeError") 142) (Value.type "BrokenPipeError")) :: (DictEntry.mk (PyData.keyHash P (Str.ofString "ConnectionAbortedError")) (Value.str (Str.ofString "ConnectionAbortedError") 143) (Value.type "ConnectionAbortedError")) :: (DictEntry.mk (PyData.keyHash P (Str.ofString "ConnectionRefusedError")) (Value.str (Str.ofString "ConnectionRefusedError") 144) (Value.type "ConnectionRefusedError")) :: (DictEntry.mk (PyData.keyHash P (Str.ofString "ConnectionResetError")) (Value.str (Str.ofString "ConnectionResetError") 145) (Value.type "ConnectionResetError")) :: (DictEntry.mk (PyData.keyHash P (Str.ofString "TabError")) (Value.str (Str.ofString "TabError") 146) (Value.type "TabError")) :: (DictEntry.mk (PyData.keyHash P (Str.ofString "UnicodeDecodeError")) (Value.str (Str.ofString "UnicodeDecodeError") 147) (Value.type "UnicodeDecodeError")) :: (DictEntry.mk (PyData.keyHash P (Str.ofString "UnicodeEncodeError")) (Value.str (Str.ofString "UnicodeEncodeError") 148) (Value.type "UnicodeEncodeError")) :: (DictEntry.mk (PyData.keyHash P (Str.ofString "UnicodeTranslateError")) (Value.str (Str.ofString "UnicodeTranslateError") 149) (Value.type "UnicodeTranslateError")) :: (DictEntry.mk (PyData.keyHash P (Str.ofString "ExceptionGroup")) (Value.str (Str.ofString "ExceptionGroup") 150) (Value.type "ExceptionGroup")) :: (DictEntry.mk (PyData.keyHash P (Str.ofString "EnvironmentError")) (Value.str (Str.ofString "EnvironmentError") 151) (Value.type "OSError")) :: (DictEntry.mk (PyData.keyHash P (Str.ofString "IOError")) (Value.str (Str.ofString "IOError") 152) (Value.type "OSError")) :: (DictEntry.mk (PyData.keyHash P (Str.ofString "open")) (Value.str (Str.ofString "open") 153) (Value.builtin "open")) :: (DictEntry.mk (PyData.keyHash P (Str.ofString "quit")) (Value.str (Str.ofString "quit") 154) (Value.builtin "builtins.quit#opaque")) :: (DictEntry.mk (PyData.keyHash P (Str.ofString "exit")) (Value.str (Str.ofString "exit") 155) (Value.builtin "builtins.exit#opaque")) :: (DictEntry.mk (PyData.keyHash P (Str.ofString "copyright")) (Value.str (Str.ofString "copyright") 156) (Value.builtin "builtins.copyright#opaque")) :: (DictEntry.mk (PyData.keyHash P (Str.ofString "credits")) (Value.str (Str.ofString "credits") 157) (Value.builtin "builtins.credits#opaque")) :: (DictEntry.mk (PyData.keyHash P (Str.ofString "license")) (Value.str (Str.ofString "license") 158) (Value.builtin "builtins.license#opaque")) :: (DictEntry.mk (PyData.keyHash P (Str.ofString "help")) (Value.str (Str.ofString "help") 159) (Value.builtin "builtins.help#opaque")) :: [])) 159) (List.toArray []))
noncomputable def o1_1 : Params → Obj := fun P => (Obj.mk (Value.type "dict") none (Data.dict (List.toArray [(DictEntry.mk (PyData.keyHash P (Str.ofString "builtins")) (Value.str (Str.ofString "builtins") 162) (Value.ref 4)), (DictEntry.mk (PyData.keyHash P (Str.ofString "__main__")) (Value.str (Str.ofString "__main__") 163) (Value.ref 5)), (DictEntry.mk (PyData.keyHash P (Str.ofString "_sre")) (Value.str (Str.ofString "_sre") 244) (Value.ref 12))]) 3) (List.toArray []))
noncomputable def o2_2 : Params → Obj := fun P => (Obj.mk Value.none none (Data.dict (List.toArray [(DictEntry.mk (PyData.keyHash P (Str.ofString "\x69mport.loaded._sre")) (Value.str (Str.ofString "\x69mport.loaded._sre") 183) (Value.bool Bool.true)), (DictEntry.mk (PyData.keyHash P (Str.ofString "class._frozen_importlib.BuiltinImporter")) (Value.str (Str.ofString "class._frozen_importlib.BuiltinImporter") 185) (Value.ref 14)), (DictEntry.mk (PyData.keyHash P (Str.ofString "watched.\x69mport")) (Value.str (Str.ofString "watched.\x69mport") 206) (Value.ref 18)), (DictEntry.mk (PyData.keyHash P (Str.ofString "class._frozen_importlib.ModuleSpec")) (Value.str (Str.ofString "class._frozen_importlib.ModuleSpec") 216) (Value.ref 22)), (DictEntry.mk (PyData.keyHash P (Str.ofString "sys.modules.booked-epoch")) (Value.str (Str.ofString "sys.modules.booked-epoch") 245) (Value.int 3 0)), (DictEntry.mk (PyData.keyHash P (Str.ofString "\x69mport.later-laid._sre")) (Value.str (Str.ofString "\x69mport.later-laid._sre") 270) (Value.bool Bool.true)), (DictEntry.mk (PyData.keyHash P (Str.ofString "watched.library")) (Value.str (Str.ofString "watched.library") 272) (Value.ref 27)), (DictEntry.mk (PyData.keyHash P (Str.ofString "watched.library-objects")) (Value.str (Str.ofString "watched.library-objects") 0) (Value.str (Str.ofString "\x0c") 0)), (DictEntry.mk (PyData.keyHash P (Str.ofString "watched.library-deep._sre")) (Value.str (Str.ofString "watched.library-deep._sre") 273) (Value.str (Str.ofString "\x04\x00\x00\x0b\x04\x00\x00\x0b\x04\x00\x00\x03\x04\x00\x00\x0b\x08\x04dict\x02") 0))]) 9) (List.toArray []))
noncomputable def o3_3 : Params → Obj := fun P => (Obj.mk (Value.type "dict") none (Data.dict (List.toArray [(DictEntry.mk (PyData.keyHash P (Str.ofString "__name__")) (Value.str (Str.ofString "__name__") 165) (Value.str (Str.ofString "__main__") 164)), (DictEntry.mk (PyData.keyHash P (Str.ofString "__doc__")) (Value.str (Str.ofString "__doc__") 166) Value.none), (DictEntry.mk (PyData.keyHash P (Str.ofString "__package__")) (Value.str (Str.ofString "__package__") 167) Value.none), (DictEntry.mk (PyData.keyHash P (Str.ofString "__loader__")) (Value.str (Str.ofString "__loader__") 168) (Value.builtin "__main__.__loader__#opaque")), (DictEntry.mk (PyData.keyHash P (Str.ofString "__spec__")) (Value.str (Str.ofString "__spec__") 169) Value.none), (DictEntry.mk (PyData.keyHash P (Str.ofString "__annotations__")) (Value.str (Str.ofString "__annotations__") 170) (Value.ref 6)), (DictEntry.mk (PyData.keyHash P (Str.ofString "__builtins__")) (Value.str (Str.ofString "__builtins__") 171) (Value.ref 4)), (DictEntry.mk (PyData.keyHash P (Str.ofString "__file__")) (Value.str (Str.ofString "__file__") 173) (Value.str (Str.ofString "/claim/cut.py") 172)), (DictEntry.mk (PyData.keyHash P (Str.ofString "__cached__")) (Value.str (Str.ofString "__cached__") 174) Value.none), (DictEntry.mk (PyData.keyHash P (Str.ofString "_sre")) (Value.str (Str.ofString "_sre") 275) (Value.ref 12))]) 10) (List.toArray []))
noncomputable def o4_4 : Params → Obj := fun P => (Obj.mk (Value.type "module") (some 0) Data.plain (List.toArray []))
noncomputable def o5_5 : Params → Obj := fun P => (Obj.mk (Value.type "module") (some 3) Data.plain (List.toArray []))
noncomputable def o6_6 : Params → Obj := fun P => (Obj.mk (Value.type "dict") none (Data.dict (List.toArray []) 0) (List.toArray []))
noncomputable def o7_7 : Params → Obj := fun P => (Obj.mk (Value.type "tuple") none (Data.seq (List.toArray []) 0) (List.toArray []))
noncomputable def o8_8 : Params → Obj := fun P => (Obj.mk Value.none none (Data.fields (List.toArray [])) (List.toArray []))
noncomputable def o9_9 : Params → Obj := fun P => (Obj.mk (Value.type "code") none (Data.fields (List.toArray [(Value.str (Str.ofString "<module>") 176), (Value.str (Str.ofString "<module>") 177), (Value.str (Str.ofString "/claim/cut.py") 178), (Value.int 1 0), (Value.int 0 0), (Value.int 0 0), (Value.int 0 0), (Value.int 0 0), (Value.ref 7), (Value.bool Bool.false), (Value.int 175 0), (Value.ref 8), Value.none, Value.none, Value.none, Value.none, (Value.int 179 0), (Value.int 1 0), (Value.str (Str.ofString "/claim/cut.py") 180)])) (List.toArray []))
noncomputable def o10_10 : Params → Obj := fun P => (Obj.mk (Value.type "frame") none Data.plain (List.toArray [(some (Value.ref 9)), (some (Value.ref 3)), (some (Value.ref 3)), none, (some (Value.str (Str.ofString "__main__") 164)), none, (some (Value.ref 0))]))
noncomputable def o11_11 : Params → Obj := fun P => (Obj.mk (Value.type "dict") none (Data.dict (List.toArray [(DictEntry.mk (PyData.keyHash P (Str.ofString "__name__")) (Value.str (Str.ofString "__name__") 247) (Value.str (Str.ofString "_sre") 246)), (DictEntry.mk (PyData.keyHash P (Str.ofString "__doc__")) (Value.str (Str.ofString "__doc__") 248) Value.none), (DictEntry.mk (PyData.keyHash P (Str.ofString "__package__")) (Value.str (Str.ofString "__package__") 250) (Value.str (Str.ofString "") 249)), (DictEntry.mk (PyData.keyHash P (Str.ofString "__loader__")) (Value.str (Str.ofString "__loader__") 251) (Value.ref 14)), (DictEntry.mk (PyData.keyHash P (Str.ofString "__spec__")) (Value.str (Str.ofString "__spec__") 252) (Value.ref 26)), (DictEntry.mk (PyData.keyHash P (Str.ofString "compile")) (Value.str (Str.ofString "compile") 253) (Value.builtin "_sre.compile")), (DictEntry.mk (PyData.keyHash P (Str.ofString "template")) (Value.str (Str.ofString "template") 254) (Value.builtin "_sre.template")), (DictEntry.mk (PyData.keyHash P (Str.ofString "getcodesize")) (Value.str (Str.ofString "getcodesize") 255) (Value.builtin "_sre.getcodesize")), (DictEntry.mk (PyData.keyHash P (Str.ofString "ascii_iscased")) (Value.str (Str.ofString "ascii_iscased") 256) (Value.builtin "_sre.ascii_iscased")), (DictEntry.mk (PyData.keyHash P (Str.ofString "unicode_iscased")) (Value.str (Str.ofString "unicode_iscased") 257) (Value.builtin "_sre.unicode_iscased")), (DictEntry.mk (PyData.keyHash P (Str.ofString "ascii_tolower")) (Value.str (Str.ofString "ascii_tolower") 258) (Value.builtin "_sre.ascii_tolower")), (DictEntry.mk (PyData.keyHash P (Str.ofString "unicode_tolower")) (Value.str (Str.ofString "unicode_tolower") 259) (Value.builtin "_sre.unicode_tolower")), (DictEntry.mk (PyData.keyHash P (Str.ofString "MAGIC")) (Value.str (Str.ofString "MAGIC") 261) (Value.int 20230612 260)), (DictEntry.mk (PyData.keyHash P (Str.ofString "CODESIZE")) (Value.str (Str.ofString "CODESIZE") 263) (Value.int 4 262)), (DictEntry.mk (PyData.keyHash P (Str.ofString "MAXREPEAT")) (Value.str (Str.ofString "MAXREPEAT") 265) (Value.int 4294967295 264)), (DictEntry.mk (PyData.keyHash P (Str.ofString "MAXGROUPS")) (Value.str (Str.ofString "MAXGROUPS") 267) (Value.int 1073741823 266)), (DictEntry.mk (PyData.keyHash P (Str.ofString "copyright")) (Value.str (Str.ofString "copyright") 269) (Value.str (Str.ofString " SRE 2.2.2 Copyright (c) 1997-2002 by Secret Labs AB ") 268))]) 17) (List.toArray []))
noncomputable def o12_12 : Params → Obj := fun P => (Obj.mk (Value.type "module") (some 11) Data.plain (List.toArray []))
noncomputable def o13_13 : Params → Obj := fun P => (Obj.mk (Value.type "dict") none (Data.dict (List.toArray [(DictEntry.mk (PyData.keyHash P (Str.ofString "__module__")) (Value.str (Str.ofString "__module__") 189) (Value.str (Str.ofString "_frozen_importlib") 186)), (DictEntry.mk (PyData.keyHash P (Str.ofString "__firstlineno__")) (Value.str (Str.ofString "__firstlineno__") 190) (Value.int 971 187)), (DictEntry.mk (PyData.keyHash P (Str.ofString "__doc__")) (Value.str (Str.ofString "__doc__") 191) (Value.builtin "_frozen_importlib.BuiltinImporter.__doc__:str#opaque")), (DictEntry.mk (PyData.keyHash P (Str.ofString "_ORIGIN")) (Value.str (Str.ofString "_ORIGIN") 192) (Value.str (Str.ofString "built-in") 188)), (DictEntry.mk (PyData.keyHash P (Str.ofString "find_spec")) (Value.str (Str.ofString "find_spec") 193) (Value.builtin "_frozen_importlib.BuiltinImporter.find_spec#opaque")), (DictEntry.mk (PyData.keyHash P (Str.ofString "create_module")) (Value.str (Str.ofString "create_module") 194) (Value.builtin "_frozen_importlib.BuiltinImporter.create_module#opaque")), (DictEntry.mk (PyData.keyHash P (Str.ofString "exec_module")) (Value.str (Str.ofString "exec_module") 195) (Value.builtin "_frozen_importlib.BuiltinImporter.exec_module#opaque")), (DictEntry.mk (PyData.keyHash P (Str.ofString "get_code")) (Value.str (Str.ofString "get_code") 196) (Value.builtin "_frozen_importlib.BuiltinImporter.get_code#opaque")), (DictEntry.mk (PyData.keyHash P (Str.ofString "get_source")) (Value.str (Str.ofString "get_source") 197) (Value.builtin "_frozen_importlib.BuiltinImporter.get_source#opaque")), (DictEntry.mk (PyData.keyHash P (Str.ofString "is_package")) (Value.str (Str.ofString "is_package") 198) (Value.builtin "_frozen_importlib.BuiltinImporter.is_package#opaque")), (DictEntry.mk (PyData.keyHash P (Str.ofString "load_module")) (Value.str (Str.ofString "load_module") 199) (Value.builtin "_frozen_importlib.BuiltinImporter.load_module#opaque")), (DictEntry.mk (PyData.keyHash P (Str.ofString "__static_attributes__")) (Value.str (Str.ofString "__static_attributes__") 200) (Value.ref 15)), (DictEntry.mk (PyData.keyHash P (Str.ofString "__dict__")) (Value.str (Str.ofString "__dict__") 202) (Value.ref 16)), (DictEntry.mk (PyData.keyHash P (Str.ofString "__weakref__")) (Value.str (Str.ofString "__weakref__") 204) (Value.ref 17))]) 14) (List.toArray []))
noncomputable def o14_14 : Params → Obj := fun P => (Obj.mk (Value.type "type") none (Data.cls (ClassData.mk (Str.ofString "BuiltinImporter") [(Value.type "object")] [(Value.ref 14), (Value.type "object")] 13 (Str.ofString "BuiltinImporter") Bool.true [] [] Bool.false none Bool.false)) (List.toArray []))
noncomputable def o16_16 : Params → Obj := fun P => (Obj.mk (Value.type "getset_descriptor") none (Data.fields (List.toArray [(Value.str (Str.ofString "__dict__") 201), (Value.ref 14), (Value.builtin "function.__dict__"), (Value.builtin "function.__dict__#set")])) (List.toArray []))
noncomputable def o17_17 : Params → Obj := fun P => (Obj.mk (Value.type "getset_descriptor") none (Data.fields (List.toArray [(Value.str (Str.ofString "__weakref__") 203), (Value.ref 14), (Value.builtin "ExceptionGroup.__weakref__"), Value.none])) (List.toArray []))
noncomputable def o18_18 : Params → Obj := fun P => (Obj.mk Value.none none (Data.seq (List.toArray [(Value.int 13 0), (Value.str (Str.mk (Array.mk (6 :: 189 :: 10 :: 95 :: 95 :: 109 :: 111 :: 100 :: 117 :: 108 :: 101 :: 95 :: 95 :: 6 :: 186 :: 17 :: 95 :: 102 :: 114 :: 111 :: 122 :: 101 :: 110 :: 95 :: 105 :: 109 :: 112 :: 111 :: 114 :: 116 :: 108 :: 105 :: 98 :: 6 :: 190 :: 15 :: 95 :: 95 :: 102 :: 105 :: 114 :: 115 :: 116 :: 108 :: 105 :: 110 :: 101 :: 110 :: 111 :: 95 :: 95 :: 4 :: 187 :: 0 :: 971 :: 6 :: 191 :: 7 :: 95 :: 95 :: 100 :: 111 :: 99 :: 95 :: 95 :: 9 :: 52 :: 95 :: 102 :: 114 :: 111 :: 122 :: 101 :: 110 :: 95 :: 105 :: 109 :: 112 :: 111 :: 114 :: 116 :: 108 :: 105 :: 98 :: 46 :: 66 :: 117 :: 105 :: 108 :: 116 :: 105 :: 110 :: 73 :: 109 :: 112 :: 111 :: 114 :: 116 :: 101 :: 114 :: 46 :: 95 :: 95 :: 100 :: 111 :: 99 :: 95 :: 95 :: 58 :: 115 :: 116 :: 114 :: 35 :: 111 :: 112 :: 97 :: 113 :: 117 :: 101 :: 6 :: 192 :: 7 :: 95 :: 79 :: 82 :: 73 :: 71 :: 73 :: 78 :: 6 :: 188 :: 8 :: 98 :: 117 :: 105 :: 108 :: 116 :: 45 :: 105 :: 110 :: 6 :: 193 :: 9 :: 102 :: 105 :: 110 :: 100 :: 95 :: 115 :: 112 :: 101 :: 99 :: 9 :: 50 :: 95 :: 102 :: 114 :: 111 :: 122 :: 101 :: 110 :: 95 :: 105 :: 109 :: 112 :: 111 :: 114 :: 116 :: 108 :: 105 :: 98 :: 46 :: 66 :: 117 :: 105 :: 108 :: 116 :: 105 :: 110 :: 73 :: 109 :: 112 :: 111 :: 114 :: 116 :: 101 :: 114 :: 46 :: 102 :: 105 :: 110 :: 100 :: 95 :: 115 :: 112 :: 101 :: 99 :: 35 :: 111 :: 112 :: 97 :: 113 :: 117 :: 101 :: 6 :: 194 :: 13 :: 99 :: 114 :: 101 :: 97 :: 116 :: 101 :: 95 :: 109 :: 111 :: 100 :: 117 :: 108 :: 101 :: 9 :: 54 :: 95 :: 102 :: 114 :: 111 :: 122 :: 101 :: 110 :: 95 :: 105 :: 109 :: 112 :: 111 :: 114 :: 116 :: 108 :: 105 :: 98 :: 46 :: 66 :: 117 :: 105 :: 108 :: 116 :: 105 :: 110 :: 73 :: 109 :: 112 :: 111 :: 114 :: 116 :: 101 :: 114 :: 46 :: 99 :: 114 :: 101 :: 97 :: 116 :: 101 :: 95 :: 109 :: 111 :: 100 :: 117 :: 108 :: 101 :: 35 :: 111 :: 112 :: 97 :: 113 :: 117 :: 101 :: 6 :: 195 :: 11 :: 101 :: 120 :: 101 :: 99 :: 95 :: 109 :: 111 :: 100 :: 117 :: 108 :: 101 :: 9 :: 52 :: 95 :: 102 :: 114 :: 111 :: 122 :: 101 :: 110 :: 95 :: 105 :: 109 :: 112 :: 111 :: 114 :: 116 :: 108 :: 105 :: 98 :: 46 :: 66 :: 117 :: 105 :: 108 :: 116 :: 105 :: 110 :: 73 :: 109 :: 112 :: 111 :: 114 :: 116 :: 101 :: 114 :: 46 :: 101 :: 120 :: 101 :: 99 :: 95 :: 109 :: 111 :: 100 :: 117 :: 108 :: 101 :: 35 :: 111 :: 112 :: 97 :: 113 :: 117 :: 101 :: 6 :: 196 :: 8 :: 103 :: 101 :: 116 :: 95 :: 99 :: 111 :: 100 :: 101 :: 9 :: 49 :: 95 :: 102 :: 114 :: 111 :: 122 :: 101 :: 110 :: 95 :: 105 :: 109 :: 112 :: 111 :: 114 :: 116 :: 108 :: 105 :: 98 :: 46 :: 66 :: 117 :: 105 :: 108 :: 116 :: 105 :: 110 :: 73 :: 109 :: 112 :: 111 :: 114 :: 116 :: 101 :: 114 :: 46 :: 103 :: 101 :: 116 :: 95 :: 99 :: 111 :: 100 :: 101 :: 35 :: 111 :: 112 :: 97 :: 113 :: 117 :: 101 :: 6 :: 197 :: 10 :: 103 :: 101 :: 116 :: 95 :: 115 :: 111 :: 117 :: 114 :: 99 :: 101 :: 9 :: 51 :: 95 :: 102 :: 114 :: 111 :: 122 :: 101 :: 110 :: 95 :: 105 :: 109 :: 112 :: 111 :: 114 :: 116 :: 108 :: 105 :: 98 :: 46 :: 66 :: 117 :: 105 :: 108 :: 116 :: 105 :: 110 :: 73 :: 109 :: 112 :: 111 :: 114 :: 116 :: 101 :: 114 :: 46 :: 103 :: 101 :: 116 :: 95 :: 115 :: 111 :: 117 :: 114 :: 99 :: 101 :: 35 :: 111 :: 112 :: 97 :: 113 :: 117 :: 101 :: 6 :: 198 :: 10 :: 105 :: 115 :: 95 :: 112 :: 97 :: 99 :: 107 :: 97 :: 103 :: 101 :: 9 :: 51 :: 95 :: 102 :: 114 :: 111 :: 122 :: 101 :: 110 :: 95 :: 105 :: 109 :: 112 :: 111 :: 114 :: 116 :: 108 :: 105 :: 98 :: 46 :: 66 :: 117 :: 105 :: 108 :: 116 :: 105 :: 110 :: 73 :: 109 :: 112 :: 111 :: 114 :: 116 :: 101 :: 114 :: 46 :: 105 :: 115 :: 95 :: 112 :: 97 :: 99 :: 107 :: 97 :: 103 :: 101 :: 35 :: 111 :: 112 :: 97 :: 113 :: 117 :: 101 :: 6 :: 199 :: 11 :: 108 :: 111 :: 97 :: 100 :: 95 :: 109 :: 111 :: 100 :: 117 :: 108 :: 101 :: 9 :: 52 :: 95 :: 102 :: 114 :: 111 :: 122 :: 101 :: 110 :: 95 :: 105 :: 109 :: 112 :: 111 :: 114 :: 116 :: 108 :: 105 :: 98 :: 46 :: 66 :: 117 :: 105 :: 108 :: 116 :: 105 :: 110 :: 73 :: 109 :: 112 :: 111 :: 114 :: 116 :: 101 :: 114 :: 46 :: 108 :: 111 :: 97 :: 100 :: 95 :: 109 :: 111 :: 100 :: 117 :: 108 :: 101 :: 35 :: 111 :: 112 :: 97 :: 113 :: 117 :: 101 :: 6 :: 200 :: 21 :: 95 :: 95 :: 115 :: 116 :: 97 :: 116 :: 105 :: 99 :: 95 :: 97 :: 116 :: 116 :: 114 :: 105 :: 98 :: 117 :: 116 :: 101 :: 115 :: 95 :: 95 :: 4 :: 0 :: 0 :: 15 :: 6 :: 202 :: 8 :: 95 :: 95 :: 100 :: 105 :: 99 :: 116 :: 95 :: 95 :: 4 :: 0 :: 0 :: 16 :: 6 :: 204 :: 11 :: 95 :: 95 :: 119 :: 101 :: 97 :: 107 :: 114 :: 101 :: 102 :: 95 :: 95 :: 4 :: 0 :: 0 :: 17 :: []))) 0), (Value.bool Bool.true), (Value.bool Bool.true), (Value.str (Str.ofString "") 205), (Value.int 21 0), (Value.str (Str.mk (Array.mk (6 :: 227 :: 10 :: 95 :: 95 :: 109 :: 111 :: 100 :: 117 :: 108 :: 101 :: 95 :: 95 :: 6 :: 217 :: 17 :: 95 :: 102 :: 114 :: 111 :: 122 :: 101 :: 110 :: 95 :: 105 :: 109 :: 112 :: 111 :: 114 :: 116 :: 108 :: 105 :: 98 :: 6 :: 228 :: 15 :: 95 :: 95 :: 102 :: 105 :: 114 :: 115 :: 116 :: 108 :: 105 :: 110 :: 101 :: 110 :: 111 :: 95 :: 95 :: 4 :: 218 :: 0 :: 562 :: 6 :: 229 :: 7 :: 95 :: 95 :: 100 :: 111 :: 99 :: 95 :: 95 :: 9 :: 47 :: 95 :: 102 :: 114 :: 111 :: 122 :: 101 :: 110 :: 95 :: 105 :: 109 :: 112 :: 111 :: 114 :: 116 :: 108 :: 105 :: 98 :: 46 :: 77 :: 111 :: 100 :: 117 :: 108 :: 101 :: 83 :: 112 :: 101 :: 99 :: 46 :: 95 :: 95 :: 100 :: 111 :: 99 :: 95 :: 95 :: 58 :: 115 :: 116 :: 114 :: 35 :: 111 :: 112 :: 97 :: 113 :: 117 :: 101 :: 6 :: 230 :: 8 :: 95 :: 95 :: 105 :: 110 :: 105 :: 116 :: 95 :: 95 :: 9 :: 44 :: 95 :: 102 :: 114 :: 111 :: 122 :: 101 :: 110 :: 95 :: 105 :: 109 :: 112 :: 111 :: 114 :: 116 :: 108 :: 105 :: 98 :: 46 :: 77 :: 111 :: 100 :: 117 :: 108 :: 101 :: 83 :: 112 :: 101 :: 99 :: 46 :: 95 :: 95 :: 105 :: 110 :: 105 :: 116 :: 95 :: 95 :: 35 :: 111 :: 112 :: 97 :: 113 :: 117 :: 101 :: 6 :: 231 :: 8 :: 95 :: 95 :: 114 :: 101 :: 112 :: 114 :: 95 :: 95 :: 9 :: 44 :: 95 :: 102 :: 114 :: 111 :: 122 :: 101 :: 110 :: 95 :: 105 :: 109 :: 112 :: 111 :: 114 :: 116 :: 108 :: 105 :: 98 :: 46 :: 77 :: 111 :: 100 :: 117 :: 108 :: 101 :: 83 :: 112 :: 101 :: 99 :: 46 :: 95 :: 95 :: 114 :: 101 :: 112 :: 114 :: 95 :: 95 :: 35 :: 111 :: 112 :: 97 :: 113 :: 117 :: 101 :: 6 :: 232 :: 6 :: 95 :: 95 :: 101 :: 113 :: 95 :: 95 :: 9 :: 42 :: 95 :: 102 :: 114 :: 111 :: 122 :: 101 :: 110 :: 95 :: 105 :: 109 :: 112 :: 111 :: 114 :: 116 :: 108 :: 105 :: 98 :: 46 :: 77 :: 111 :: 100 :: 117 :: 108 :: 101 :: 83 :: 112 :: 101 :: 99 :: 46 :: 95 :: 95 :: 101 :: 113 :: 95 :: 95 :: 35 :: 111 :: 112 :: 97 :: 113 :: 117 :: 101 :: 6 :: 233 :: 6 :: 99 :: 97 :: 99 :: 104 :: 101 :: 100 :: 9 :: 42 :: 95 :: 102 :: 114 :: 111 :: 122 :: 101 :: 110 :: 95 :: 105 :: 109 :: 112 :: 111 :: 114 :: 116 :: 108 :: 105 :: 98 :: 46 :: 77 :: 111 :: 100 :: 117 :: 108 :: 101 :: 83 :: 112 :: 101 :: 99 :: 46 :: 99 :: 97 :: 99 :: 104 :: 101 :: 100 :: 35 :: 111 :: 112 :: 97 :: 113 :: 117 :: 101 :: 6 :: 234 :: 6 :: 112 :: 97 :: 114 :: 101 :: 110 :: 116 :: 9 :: 42 :: 95 :: 102 :: 114 :: 111 :: 122 :: 101 :: 110 :: 95 :: 105 :: 109 :: 112 :: 111 :: 114 :: 116 :: 108 :: 105 :: 98 :: 46 :: 77 :: 111 :: 100 :: 117 :: 108 :: 101 :: 83 :: 112 :: 101 :: 99 :: 46 :: 112 :: 97 :: 114 :: 101 :: 110 :: 116 :: 35 :: 111 :: 112 :: 97 :: 113 :: 117 :: 101 :: 6 :: 235 :: 12 :: 104 :: 97 :: 115 :: 95 :: 108 :: 111 :: 99 :: 97 :: 116 :: 105 :: 111 :: 110 :: 9 :: 48 :: 95 :: 102 :: 114 :: 111 :: 122 :: 101 :: 110 :: 95 :: 105 :: 109 :: 112 :: 111 :: 114 :: 116 :: 108 :: 105 :: 98 :: 46 :: 77 :: 111 :: 100 :: 117 :: 108 :: 101 :: 83 :: 112 :: 101 :: 99 :: 46 :: 104 :: 97 :: 115 :: 95 :: 108 :: 111 :: 99 :: 97 :: 116 :: 105 :: 111 :: 110 :: 35 :: 111 :: 112 :: 97 :: 113 :: 117 :: 101 :: 6 :: 236 :: 21 :: 95 :: 95 :: 115 :: 116 :: 97 :: 116 :: 105 :: 99 :: 95 :: 97 :: 116 :: 116 :: 114 :: 105 :: 98 :: 117 :: 116 :: 101 :: 115 :: 95 :: 95 :: 4 :: 0 :: 0 :: 23 :: 6 :: 238 :: 8 :: 95 :: 95 :: 100 :: 105 :: 99 :: 116 :: 95 :: 95 :: 4 :: 0 :: 0 :: 24 :: 6 :: 240 :: 11 :: 95 :: 95 :: 119 :: 101 :: 97 :: 107 :: 114 :: 101 :: 102 :: 95 :: 95 :: 4 :: 0 :: 0 :: 25 :: 6 :: 241 :: 8 :: 95 :: 95 :: 104 :: 97 :: 115 :: 104 :: 95 :: 95 :: 0 :: []))) 0), (Value.bool Bool.true), (Value.bool Bool.true), (Value.str (Str.ofString "") 242)]) 1) (List.toArray []))
noncomputable def o19_19 : Params → Obj := fun P => (Obj.mk (Value.type "list") none (Data.seq (List.toArray []) 0) (List.toArray []))
noncomputable def o20_20 : Params → Obj := fun P => (Obj.mk (Value.type "dict") none (Data.dict (List.toArray [(DictEntry.mk (PyData.keyHash P (Str.ofString "name")) (Value.str (Str.ofString "name") 208) (Value.str (Str.ofString "_sre") 207)), (DictEntry.mk (PyData.keyHash P (Str.ofString "loader")) (Value.str (Str.ofString "loader") 209) (Value.ref 14)), (DictEntry.mk (PyData.keyHash P (Str.ofString "origin")) (Value.str (Str.ofString "origin") 210) (Value.str (Str.ofString "built-in") 184)), (DictEntry.mk (PyData.keyHash P (Str.ofString "loader_state")) (Value.str (Str.ofString "loader_state") 211) Value.none), (DictEntry.mk (PyData.keyHash P (Str.ofString "submodule_search_locations")) (Value.str (Str.ofString "submodule_search_locations") 212) Value.none), (DictEntry.mk (PyData.keyHash P (Str.ofString "_uninitialized_submodules")) (Value.str (Str.ofString "_uninitialized_submodules") 213) (Value.ref 19)), (DictEntry.mk (PyData.keyHash P (Str.ofString "_set_fileattr")) (Value.str (Str.ofString "_set_fileattr") 214) (Value.bool Bool.false)), (DictEntry.mk (PyData.keyHash P (Str.ofString "_cached")) (Value.str (Str.ofString "_cached") 215) Value.none), (DictEntry.mk (PyData.keyHash P (Str.ofString "_initializing")) (Value.str (Str.ofString "_initializing") 243) (Value.bool Bool.false))]) 9) (List.toArray []))
noncomputable def o21_21 : Params → Obj := fun P => (Obj.mk (Value.type "dict") none (Data.dict (List.toArray [(DictEntry.mk (PyData.keyHash P (Str.ofString "__module__")) (Value.str (Str.ofString "__module__") 227) (Value.str (Str.ofString "_frozen_importlib") 217)), (DictEntry.mk (PyData.keyHash P (Str.ofString "__firstlineno__")) (Value.str (Str.ofString "__firstlineno__") 228) (Value.int 562 218)), (DictEntry.mk (PyData.keyHash P (Str.ofString "__doc__")) (Value.str (Str.ofString "__doc__") 229) (Value.builtin "_frozen_importlib.ModuleSpec.__doc__:str#opaque")), (DictEntry.mk (PyData.keyHash P (Str.ofString "__init__")) (Value.str (Str.ofString "__init__") 230) (Value.builtin "_frozen_importlib.ModuleSpec.__init__#opaque")), (DictEntry.mk (PyData.keyHash P (Str.ofString "__repr__")) (Value.str (Str.ofString "__repr__") 231) (Value.builtin "_frozen_importlib.ModuleSpec.__repr__#opaque")), (DictEntry.mk (PyData.keyHash P (Str.ofString "__eq__")) (Value.str (Str.ofString "__eq__") 232) (Value.builtin "_frozen_importlib.ModuleSpec.__eq__#opaque")), (DictEntry.mk (PyData.keyHash P (Str.ofString "cached")) (Value.str (Str.ofString "cached") 233) (Value.builtin "_frozen_importlib.ModuleSpec.cached#opaque")), (DictEntry.mk (PyData.keyHash P (Str.ofString "parent")) (Value.str (Str.ofString "parent") 234) (Value.builtin "_frozen_importlib.ModuleSpec.parent#opaque")), (DictEntry.mk (PyData.keyHash P (Str.ofString "has_location")) (Value.str (Str.ofString "has_location") 235) (Value.builtin "_frozen_importlib.ModuleSpec.has_location#opaque")), (DictEntry.mk (PyData.keyHash P (Str.ofString "__static_attributes__")) (Value.str (Str.ofString "__static_attributes__") 236) (Value.ref 23)), (DictEntry.mk (PyData.keyHash P (Str.ofString "__dict__")) (Value.str (Str.ofString "__dict__") 238) (Value.ref 24)), (DictEntry.mk (PyData.keyHash P (Str.ofString "__weakref__")) (Value.str (Str.ofString "__weakref__") 240) (Value.ref 25)), (DictEntry.mk (PyData.keyHash P (Str.ofString "__hash__")) (Value.str (Str.ofString "__hash__") 241) Value.none)]) 13) (List.toArray []))
noncomputable def o22_22 : Params → Obj := fun P => (Obj.mk (Value.type "type") none (Data.cls (ClassData.mk (Str.ofString "ModuleSpec") [(Value.type "object")] [(Value.ref 22), (Value.type "object")] 21 (Str.ofString "ModuleSpec") Bool.true [] [] Bool.false none Bool.false)) (List.toArray []))
noncomputable def o23_23 : Params → Obj := fun P => (Obj.mk (Value.type "tuple") none (Data.seq (List.toArray [(Value.str (Str.ofString "_cached") 219), (Value.str (Str.ofString "_set_fileattr") 220), (Value.str (Str.ofString "_uninitialized_submodules") 221), (Value.str (Str.ofString "loader") 222), (Value.str (Str.ofString "loader_state") 223), (Value.str (Str.ofString "name") 224), (Value.str (Str.ofString "origin") 225), (Value.str (Str.ofString "submodule_search_locations") 226)]) 0) (List.toArray []))
noncomputable def o24_24 : Params → Obj := fun P => (Obj.mk (Value.type "getset_descriptor") none (Data.fields (List.toArray [(Value.str (Str.ofString "__dict__") 237), (Value.ref 22), (Value.builtin "function.__dict__"), (Value.builtin "function.__dict__#set")])) (List.toArray []))
noncomputable def o25_25 : Params → Obj := fun P => (Obj.mk (Value.type "getset_descriptor") none (Data.fields (List.toArray [(Value.str (Str.ofString "__weakref__") 239), (Value.ref 22), (Value.builtin "ExceptionGroup.__weakref__"), Value.none])) (List.toArray []))
noncomputable def o26_26 : Params → Obj := fun P => (Obj.mk (Value.ref 22) (some 20) Data.plain (List.toArray []))
noncomputable def o27_27 : Params → Obj := fun P => (Obj.mk Value.none none (Data.seq (List.toArray [(Value.int 11 0), (Value.str (Str.mk (List.toArray (6 :: 247 :: 8 :: 95 :: 95 :: 110 :: 97 :: 109 :: 101 :: 95 :: 95 :: 6 :: 246 :: 4 :: 95 :: 115 :: 114 :: 101 :: 6 :: 248 :: 7 :: 95 :: 95 :: 100 :: 111 :: 99 :: 95 :: 95 :: 0 :: 6 :: 250 :: 11 :: 95 :: 95 :: 112 :: 97 :: 99 :: 107 :: 97 :: 103 :: 101 :: 95 :: 95 :: 6 :: 249 :: 0 :: 6 :: 251 :: 10 :: 95 :: 95 :: 108 :: 111 :: 97 :: 100 :: 101 :: 114 :: 95 :: 95 :: 4 :: 0 :: 0 :: 14 :: 6 :: 252 :: 8 :: 95 :: 95 :: 115 :: 112 :: 101 :: 99 :: 95 :: 95 :: 4 :: 0 :: 0 :: 26 :: 6 :: 253 :: 7 :: 99 :: 111 :: 109 :: 112 :: 105 :: 108 :: 101 :: 9 :: 12 :: 95 :: 115 :: 114 :: 101 :: 46 :: 99 :: 111 :: 109 :: 112 :: 105 :: 108 :: 101 :: 6 :: 254 :: 8 :: 116 :: 101 :: 109 :: 112 :: 108 :: 97 :: 116 :: 101 :: 9 :: 13 :: 95 :: 115 :: 114 :: 101 :: 46 :: 116 :: 101 :: 109 :: 112 :: 108 :: 97 :: 116 :: 101 :: 6 :: 255 :: 11 :: 103 :: 101 :: 116 :: 99 :: 111 :: 100 :: 101 :: 115 :: 105 :: 122 :: 101 :: 9 :: 16 :: 95 :: 115 :: 114 :: 101 :: 46 :: 103 :: 101 :: 116 :: 99 :: 111 :: 100 :: 101 :: 115 :: 105 :: 122 :: 101 :: 6 :: 256 :: 13 :: 97 :: 115 :: 99 :: 105 :: 105 :: 95 :: 105 :: 115 :: 99 :: 97 :: 115 :: 101 :: 100 :: 9 :: 18 :: 95 :: 115 :: 114 :: 101 :: 46 :: 97 :: 115 :: 99 :: 105 :: 105 :: 95 :: 105 :: 115 :: 99 :: 97 :: 115 :: 101 :: 100 :: 6 :: 257 :: 15 :: 117 :: 110 :: 105 :: 99 :: 111 :: 100 :: 101 :: 95 :: 105 :: 115 :: 99 :: 97 :: 115 :: 101 :: 100 :: 9 :: 20 :: 95 :: 115 :: 114 :: 101 :: 46 :: 117 :: 110 :: 105 :: 99 :: 111 :: 100 :: 101 :: 95 :: 105 :: 115 :: 99 :: 97 :: 115 :: 101 :: 100 :: 6 :: 258 :: 13 :: 97 :: 115 :: 99 :: 105 :: 105 :: 95 :: 116 :: 111 :: 108 :: 111 :: 119 :: 101 :: 114 :: 9 :: 18 :: 95 :: 115 :: 114 :: 101 :: 46 :: 97 :: 115 :: 99 :: 105 :: 105 :: 95 :: 116 :: 111 :: 108 :: 111 :: 119 :: 101 :: 114 :: 6 :: 259 :: 15 :: 117 :: 110 :: 105 :: 99 :: 111 :: 100 :: 101 :: 95 :: 116 :: 111 :: 108 :: 111 :: 119 :: 101 :: 114 :: 9 :: 20 :: 95 :: 115 :: 114 :: 101 :: 46 :: 117 :: 110 :: 105 :: 99 :: 111 :: 100 :: 101 :: 95 :: 116 :: 111 :: 108 :: 111 :: 119 :: 101 :: 114 :: 6 :: 261 :: 5 :: 77 :: 65 :: 71 :: 73 :: 67 :: 4 :: 260 :: 0 :: 20230612 :: 6 :: 263 :: 8 :: 67 :: 79 :: 68 :: 69 :: 83 :: 73 :: 90 :: 69 :: 4 :: 262 :: 0 :: 4 :: 6 :: 265 :: 9 :: 77 :: 65 :: 88 :: 82 :: 69 :: 80 :: 69 :: 65 :: 84 :: 4 :: 264 :: 0 :: 4294967295 :: 6 :: 267 :: 9 :: 77 :: 65 :: 88 :: 71 :: 82 :: 79 :: 85 :: 80 :: 83 :: 4 :: 266 :: 0 :: 1073741823 :: 6 :: 269 :: 9 :: 99 :: 111 :: 112 :: 121 :: 114 :: 105 :: 103 :: 104 :: 116 :: 6 :: 268 :: 53 :: 32 :: 83 :: 82 :: 69 :: 32 :: 50 :: 46 :: 50 :: 46 :: 50 :: 32 :: 67 :: 111 :: 112 :: 121 :: 114 :: 105 :: 103 :: 104 :: 116 :: 32 :: 40 :: 99 :: 41 :: 32 :: 49 :: 57 :: 57 :: 55 :: 45 :: 50 :: 48 :: 48 :: 50 :: 32 :: 98 :: 121 :: 32 :: 83 :: 101 :: 99 :: 114 :: 101 :: 116 :: 32 :: 76 :: 97 :: 98 :: 115 :: 32 :: 65 :: 66 :: 32 :: []))) 0), (Value.bool Bool.true), (Value.bool Bool.false), (Value.str (Str.ofString "_sre") 271)]) 0) (List.toArray []))
noncomputable def o11_37 : Params → Obj := fun P => (Obj.mk (Value.type "dict") none (Data.dict (List.toArray [(DictEntry.mk (PyData.keyHash P (Str.ofString "__name__")) (Value.str (Str.ofString "__name__") 247) (Value.str (Str.ofString "_sre") 246)), (DictEntry.mk (PyData.keyHash P (Str.ofString "__doc__")) (Value.str (Str.ofString "__doc__") 248) Value.none), (DictEntry.mk (PyData.keyHash P (Str.ofString "__package__")) (Value.str (Str.ofString "__package__") 250) (Value.str (Str.ofString "") 249)), (DictEntry.mk (PyData.keyHash P (Str.ofString "__loader__")) (Value.str (Str.ofString "__loader__") 251) (Value.builtin "off-the-table:_sre.__loader__:shared#opaque")), (DictEntry.mk (PyData.keyHash P (Str.ofString "__spec__")) (Value.str (Str.ofString "__spec__") 252) (Value.builtin "off-the-table:_sre.__spec__:shared#opaque")), (DictEntry.mk (PyData.keyHash P (Str.ofString "compile")) (Value.str (Str.ofString "compile") 253) (Value.builtin "_sre.compile")), (DictEntry.mk (PyData.keyHash P (Str.ofString "template")) (Value.str (Str.ofString "template") 254) (Value.builtin "off-the-table:_sre.template:shared#opaque")), (DictEntry.mk (PyData.keyHash P (Str.ofString "getcodesize")) (Value.str (Str.ofString "getcodesize") 255) (Value.builtin "off-the-table:_sre.getcodesize:shared#opaque")), (DictEntry.mk (PyData.keyHash P (Str.ofString "ascii_iscased")) (Value.str (Str.ofString "ascii_iscased") 256) (Value.builtin "off-the-table:_sre.ascii_iscased:shared#opaque")), (DictEntry.mk (PyData.keyHash P (Str.ofString "unicode_iscased")) (Value.str (Str.ofString "unicode_iscased") 257) (Value.builtin "off-the-table:_sre.unicode_iscased:shared#opaque")), (DictEntry.mk (PyData.keyHash P (Str.ofString "ascii_tolower")) (Value.str (Str.ofString "ascii_tolower") 258) (Value.builtin "off-the-table:_sre.ascii_tolower:shared#opaque")), (DictEntry.mk (PyData.keyHash P (Str.ofString "unicode_tolower")) (Value.str (Str.ofString "unicode_tolower") 259) (Value.builtin "off-the-table:_sre.unicode_tolower:shared#opaque")), (DictEntry.mk (PyData.keyHash P (Str.ofString "MAGIC")) (Value.str (Str.ofString "MAGIC") 261) (Value.int 20230612 260)), (DictEntry.mk (PyData.keyHash P (Str.ofString "CODESIZE")) (Value.str (Str.ofString "CODESIZE") 263) (Value.int 4 262)), (DictEntry.mk (PyData.keyHash P (Str.ofString "MAXREPEAT")) (Value.str (Str.ofString "MAXREPEAT") 265) (Value.int 4294967295 264)), (DictEntry.mk (PyData.keyHash P (Str.ofString "MAXGROUPS")) (Value.str (Str.ofString "MAXGROUPS") 267) (Value.int 1073741823 266)), (DictEntry.mk (PyData.keyHash P (Str.ofString "copyright")) (Value.str (Str.ofString "copyright") 269) (Value.str (Str.ofString " SRE 2.2.2 Copyright (c) 1997-2002 by Secret Labs AB ") 268))]) 17) (List.toArray []))
noncomputable def o30_55 : Params → Obj := fun P => (Obj.mk (Value.type "code") none (Data.fields (List.toArray [(Value.str (Str.ofString "<module>") 277), (Value.str (Str.ofString "<module>") 278), (Value.str (Str.ofString "/claim/cut.py") 279), (Value.int 1 0), (Value.int 0 0), (Value.int 0 0), (Value.int 0 0), (Value.int 0 0), (Value.ref 28), (Value.bool Bool.false), (Value.int 276 0), (Value.ref 29), Value.none, Value.none, Value.none, Value.none, (Value.int 280 0), (Value.int 1 0), (Value.str (Str.ofString "/claim/cut.py") 281)])) (List.toArray []))
noncomputable def o31_56 : Params → Obj := fun P => (Obj.mk (Value.type "frame") none Data.plain (List.toArray [(some (Value.ref 30)), (some (Value.ref 3)), (some (Value.ref 3)), none, (some (Value.str (Str.ofString "__main__") 164)), none, (some (Value.ref 0))]))
noncomputable def o3_57 : Params → Obj := fun P => (Obj.mk (Value.type "dict") none (Data.dict (List.toArray [(DictEntry.mk (PyData.keyHash P (Str.ofString "__name__")) (Value.str (Str.ofString "__name__") 165) (Value.str (Str.ofString "cpy313.wsgiref.headers") 289)), (DictEntry.mk (PyData.keyHash P (Str.ofString "__doc__")) (Value.str (Str.ofString "__doc__") 166) Value.none), (DictEntry.mk (PyData.keyHash P (Str.ofString "__package__")) (Value.str (Str.ofString "__package__") 167) Value.none), (DictEntry.mk (PyData.keyHash P (Str.ofString "__loader__")) (Value.str (Str.ofString "__loader__") 168) (Value.builtin "__main__.__loader__#opaque")), (DictEntry.mk (PyData.keyHash P (Str.ofString "__spec__")) (Value.str (Str.ofString "__spec__") 169) Value.none), (DictEntry.mk (PyData.keyHash P (Str.ofString "__annotations__")) (Value.str (Str.ofString "__annotations__") 170) (Value.ref 6)), (DictEntry.mk (PyData.keyHash P (Str.ofString "__builtins__")) (Value.str (Str.ofString "__builtins__") 171) (Value.ref 4)), (DictEntry.mk (PyData.keyHash P (Str.ofString "__file__")) (Value.str (Str.ofString "__file__") 173) (Value.str (Str.ofString "/claim/cut.py") 172)), (DictEntry.mk (PyData.keyHash P (Str.ofString "__cached__")) (Value.str (Str.ofString "__cached__") 174) Value.none), (DictEntry.mk (PyData.keyHash P (Str.ofString "_sre")) (Value.str (Str.ofString "_sre") 275) (Value.ref 12)), (DictEntry.mk (PyData.keyHash P (Str.ofString "_wall")) (Value.str (Str.ofString "_wall") 288) (Value.ref 38)), (DictEntry.mk (PyData.keyHash P (Str.ofString "_name_disallowed_re")) (Value.str (Str.ofString "_name_disallowed_re") 316) (Value.ref 43)), (DictEntry.mk (PyData.keyHash P (Str.ofString "_value_disallowed_re")) (Value.str (Str.ofString "_value_disallowed_re") 350) (Value.ref 48))]) 13) (List.toArray []))
noncomputable def o29_58 : Params → Obj := fun P => (Obj.mk Value.none none (Data.fields (List.toArray [(Value.int 2 0), (Value.int 0 0), (Value.ref 37)])) (List.toArray []))
noncomputable def o34_61 : Params → Obj := fun P => (Obj.mk (Value.type "tuple") none (Data.seq (List.toArray [(Value.str (Str.ofString "k") 285)]) 0) (List.toArray []))
noncomputable def o36_63 : Params → Obj := by
  refine' (?F : (x : Params → Obj) → x = (fun P => (Obj.mk Value.none none (Data.func (FuncData.mk (Str.ofString "_wall") (Str.ofString "_wall") a1 (FuncBody.stmts b1) s1 0 [] Value.none Value.none Value.none Value.none none Value.none Value.none 0)) (List.toArray []))) → Params → Obj) _ ?h
  case F => exact fun x _ => x
  case h =>
    delta a1 b1 s1
    exact rfl
noncomputable def o37_64 : Params → Obj := fun P => (Obj.mk (Value.type "code") none (Data.fields (List.toArray [(Value.str (Str.ofString "_wall") 282), (Value.str (Str.ofString "_wall") 283), (Value.str (Str.ofString "/claim/cut.py") 284), (Value.int 2 0), (Value.int 1 0), (Value.int 0 0), (Value.int 0 0), (Value.int 3 0), (Value.ref 32), (Value.bool Bool.true), (Value.int 276 0), (Value.ref 33), Value.none, (Value.ref 34), (Value.ref 35), (Value.ref 36), (Value.int 286 0), (Value.int 2 0), (Value.str (Str.ofString "/claim/cut.py") 287)])) (List.toArray []))
noncomputable def o38_65 : Params → Obj := by
  refine' (?F : (x : Params → Obj) → x = (fun P => (Obj.mk (Value.type "function") none (Data.func (FuncData.mk (Str.ofString "_wall") (Str.ofString "_wall") a1 (FuncBody.stmts b1) s1 3 [] Value.none Value.none Value.none (Value.str (Str.ofString "__main__") 164) none (Value.ref 37) Value.none 0)) (List.toArray []))) → Params → Obj) _ ?h
  case F => exact fun x _ => x
  case h =>
    delta a1 b1 s1
    exact rfl
noncomputable def o39_66 : Params → Obj := fun P => (Obj.mk (Value.type "list") none (Data.seq (List.toArray [(Value.int 14 294), (Value.int 10 295), (Value.int 4 296), (Value.int 1 297), (Value.int 1 298), (Value.int 22 299), (Value.int 0 300), (Value.int 31 301), (Value.int 16 302), (Value.int 127 303), (Value.int 0 304), (Value.int 13 305), (Value.int 7 306), (Value.int 22 307), (Value.int 0 308), (Value.int 31 309), (Value.int 16 310), (Value.int 127 311), (Value.int 0 312), (Value.int 1 313)]) 0) (List.toArray []))
noncomputable def o41_68 : Params → Obj := fun P => (Obj.mk (Value.type "tuple") none (Data.seq (List.toArray [Value.none]) 0) (List.toArray []))
noncomputable def o42_69 : Params → Obj := fun P => (Obj.mk (Value.type "tuple") none (Data.seq (List.toArray [(Value.int 14 0), (Value.int 10 0), (Value.int 4 0), (Value.int 1 0), (Value.int 1 0), (Value.int 22 0), (Value.int 0 0), (Value.int 31 0), (Value.int 16 0), (Value.int 127 0), (Value.int 0 0), (Value.int 13 0), (Value.int 7 0), (Value.int 22 0), (Value.int 0 0), (Value.int 31 0), (Value.int 16 0), (Value.int 127 0), (Value.int 0 0), (Value.int 1 0)]) 0) (List.toArray []))
noncomputable def o43_70 : Params → Obj := fun P => (Obj.mk (Value.type "re.Pattern") none (Data.fields (List.toArray [(Value.str (Str.ofString "[\\x00-\\x1F\\x7F]") 292), (Value.int 32 315), (Value.int 0 0), Value.none, Value.none, (Value.ref 42), (Value.int 0 0)])) (List.toArray []))
noncomputable def o44_71 : Params → Obj := fun P => (Obj.mk (Value.type "list") none (Data.seq (List.toArray ((Value.int 14 320) :: (Value.int 14 321) :: (Value.int 4 322) :: (Value.int 1 323) :: (Value.int 1 324) :: (Value.int 9 325) :: (Value.int 4294966783 326) :: (Value.int 0 327) :: (Value.int 0 328) :: (Value.int 2147483648 329) :: (Value.int 0 330) :: (Value.int 0 331) :: (Value.int 0 332) :: (Value.int 0 333) :: (Value.int 0 334) :: (Value.int 13 335) :: (Value.int 11 336) :: (Value.int 9 337) :: (Value.int 4294966783 338) :: (Value.int 0 339) :: (Value.int 0 340) :: (Value.int 2147483648 341) :: (Value.int 0 342) :: (Value.int 0 343) :: (Value.int 0 344) :: (Value.int 0 345) :: (Value.int 0 346) :: (Value.int 1 347) :: [])) 0) (List.toArray []))
noncomputable def o47_74 : Params → Obj := fun P => (Obj.mk (Value.type "tuple") none (Data.seq (List.toArray ((Value.int 14 0) :: (Value.int 14 0) :: (Value.int 4 0) :: (Value.int 1 0) :: (Value.int 1 0) :: (Value.int 9 0) :: (Value.int 4294966783 0) :: (Value.int 0 0) :: (Value.int 0 0) :: (Value.int 2147483648 0) :: (Value.int 0 0) :: (Value.int 0 0) :: (Value.int 0 0) :: (Value.int 0 0) :: (Value.int 0 0) :: (Value.int 13 0) :: (Value.int 11 0) :: (Value.int 9 0) :: (Value.int 4294966783 0) :: (Value.int 0 0) :: (Value.int 0 0) :: (Value.int 2147483648 0) :: (Value.int 0 0) :: (Value.int 0 0) :: (Value.int 0 0) :: (Value.int 0 0) :: (Value.int 0 0) :: (Value.int 1 0) :: [])) 0) (List.toArray []))
noncomputable def o48_75 : Params → Obj := fun P => (Obj.mk (Value.type "re.Pattern") none (Data.fields (List.toArray [(Value.str (Str.ofString "[\\x00-\\x08\\x0A-\\x1F\\x7F]") 318), (Value.int 32 349), (Value.int 0 0), Value.none, Value.none, (Value.ref 47), (Value.int 0 0)])) (List.toArray []))
noncomputable def o3_76 : Params → Obj := fun P => (Obj.mk (Value.type "dict") none (Data.dict (List.toArray [(DictEntry.mk (PyData.keyHash P (Str.ofString "__name__")) (Value.str (Str.ofString "__name__") 165) (Value.str (Str.ofString "cpy313.wsgiref.headers") 289)), (DictEntry.mk (PyData.keyHash P (Str.ofString "__doc__")) (Value.str (Str.ofString "__doc__") 166) Value.none), (DictEntry.mk (PyData.keyHash P (Str.ofString "__package__")) (Value.str (Str.ofString "__package__") 167) Value.none), (DictEntry.mk (PyData.keyHash P (Str.ofString "__loader__")) (Value.str (Str.ofString "__loader__") 168) (Value.builtin "__main__.__loader__#opaque")), (DictEntry.mk (PyData.keyHash P (Str.ofString "__spec__")) (Value.str (Str.ofString "__spec__") 169) Value.none), (DictEntry.mk (PyData.keyHash P (Str.ofString "__annotations__")) (Value.str (Str.ofString "__annotations__") 170) (Value.ref 6)), (DictEntry.mk (PyData.keyHash P (Str.ofString "__builtins__")) (Value.str (Str.ofString "__builtins__") 171) (Value.ref 4)), (DictEntry.mk (PyData.keyHash P (Str.ofString "__file__")) (Value.str (Str.ofString "__file__") 173) (Value.str (Str.ofString "/claim/cut.py") 172)), (DictEntry.mk (PyData.keyHash P (Str.ofString "__cached__")) (Value.str (Str.ofString "__cached__") 174) Value.none), (DictEntry.mk (PyData.keyHash P (Str.ofString "_sre")) (Value.str (Str.ofString "_sre") 275) (Value.ref 12)), (DictEntry.mk (PyData.keyHash P (Str.ofString "_wall")) (Value.str (Str.ofString "_wall") 288) (Value.ref 38)), (DictEntry.mk (PyData.keyHash P (Str.ofString "_name_disallowed_re")) (Value.str (Str.ofString "_name_disallowed_re") 316) (Value.ref 43)), (DictEntry.mk (PyData.keyHash P (Str.ofString "_value_disallowed_re")) (Value.str (Str.ofString "_value_disallowed_re") 350) (Value.ref 48)), (DictEntry.mk (PyData.keyHash P (Str.ofString "Headers")) (Value.str (Str.ofString "Headers") 507) (Value.ref 171))]) 14) (List.toArray []))
noncomputable def o29_77 : Params → Obj := fun P => (Obj.mk Value.none none (Data.fields (List.toArray [(Value.int 2 0), (Value.int 0 0), (Value.ref 37), (Value.int 8 0), (Value.int 0 0), (Value.ref 54)])) (List.toArray []))
noncomputable def o50_79 : Params → Obj := fun P => (Obj.mk (Value.type "builtin_function_or_method") none (Data.fields (List.toArray [(Value.builtin "type.__prepare__"), (Value.type "type")])) (List.toArray []))
noncomputable def o51_80 : Params → Obj := fun P => (Obj.mk (Value.type "dict") none (Data.dict (List.toArray ((DictEntry.mk (PyData.keyHash P (Str.ofString "__module__")) (Value.str (Str.ofString "__module__") 358) (Value.str (Str.ofString "cpy313.wsgiref.headers") 289)) :: (DictEntry.mk (PyData.keyHash P (Str.ofString "__qualname__")) (Value.str (Str.ofString "__qualname__") 360) (Value.str (Str.ofString "Headers") 359)) :: (DictEntry.mk (PyData.keyHash P (Str.ofString "__firstlineno__")) (Value.str (Str.ofString "__firstlineno__") 362) (Value.int 8 361)) :: (DictEntry.mk (PyData.keyHash P (Str.ofString "__init__")) (Value.str (Str.ofString "__init__") 372) (Value.ref 63)) :: (DictEntry.mk (PyData.keyHash P (Str.ofString "_convert_string_type")) (Value.str (Str.ofString "_convert_string_type") 382) (Value.ref 70)) :: (DictEntry.mk (PyData.keyHash P (Str.ofString "__len__")) (Value.str (Str.ofString "__len__") 389) (Value.ref 77)) :: (DictEntry.mk (PyData.keyHash P (Str.ofString "__setitem__")) (Value.str (Str.ofString "__setitem__") 398) (Value.ref 84)) :: (DictEntry.mk (PyData.keyHash P (Str.ofString "__delitem__")) (Value.str (Str.ofString "__delitem__") 404) (Value.ref 89)) :: (DictEntry.mk (PyData.keyHash P (Str.ofString "__getitem__")) (Value.str (Str.ofString "__getitem__") 412) (Value.ref 96)) :: (DictEntry.mk (PyData.keyHash P (Str.ofString "__contains__")) (Value.str (Str.ofString "__contains__") 420) (Value.ref 103)) :: (DictEntry.mk (PyData.keyHash P (Str.ofString "get_all")) (Value.str (Str.ofString "get_all") 428) (Value.ref 110)) :: (DictEntry.mk (PyData.keyHash P (Str.ofString "get")) (Value.str (Str.ofString "get") 439) (Value.ref 118)) :: (DictEntry.mk (PyData.keyHash P (Str.ofString "keys")) (Value.str (Str.ofString "keys") 445) (Value.ref 123)) :: (DictEntry.mk (PyData.keyHash P (Str.ofString "values")) (Value.str (Str.ofString "values") 451) (Value.ref 128)) :: (DictEntry.mk (PyData.keyHash P (Str.ofString "items")) (Value.str (Str.ofString "items") 458) (Value.ref 135)) :: (DictEntry.mk (PyData.keyHash P (Str.ofString "__repr__")) (Value.str (Str.ofString "__repr__") 465) (Value.ref 142)) :: (DictEntry.mk (PyData.keyHash P (Str.ofString "__str__")) (Value.str (Str.ofString "__str__") 471) (Value.ref 147)) :: (DictEntry.mk (PyData.keyHash P (Str.ofString "__bytes__")) (Value.str (Str.ofString "__bytes__") 478) (Value.ref 154)) :: (DictEntry.mk (PyData.keyHash P (Str.ofString "setdefault")) (Value.str (Str.ofString "setdefault") 488) (Value.ref 161)) :: (DictEntry.mk (PyData.keyHash P (Str.ofString "add_header")) (Value.str (Str.ofString "add_header") 498) (Value.ref 168)) :: (DictEntry.mk (PyData.keyHash P (Str.ofString "__static_attributes__")) (Value.str (Str.ofString "__static_attributes__") 500) (Value.ref 169)) :: [])) 21) (List.toArray []))
noncomputable def o53_82 : Params → Obj := fun P => (Obj.mk Value.none none (Data.fields (List.toArray ((Value.int 10 0) :: (Value.int 4 0) :: (Value.ref 62) :: (Value.int 20 0) :: (Value.int 4 0) :: (Value.ref 69) :: (Value.int 28 0) :: (Value.int 4 0) :: (Value.ref 76) :: (Value.int 31 0) :: (Value.int 4 0) :: (Value.ref 83) :: (Value.int 35 0) :: (Value.int 4 0) :: (Value.ref 88) :: (Value.int 39 0) :: (Value.int 4 0) :: (Value.ref 95) :: (Value.int 42 0) :: (Value.int 4 0) :: (Value.ref 102) :: (Value.int 45 0) :: (Value.int 4 0) :: (Value.ref 109) :: (Value.int 48 0) :: (Value.int 4 0) :: (Value.ref 117) :: (Value.int 55 0) :: (Value.int 4 0) :: (Value.ref 122) :: (Value.int 58 0) :: (Value.int 4 0) :: (Value.ref 127) :: (Value.int 61 0) :: (Value.int 4 0) :: (Value.ref 134) :: (Value.int 64 0) :: (Value.int 4 0) :: (Value.ref 141) :: (Value.int 67 0) :: (Value.int 4 0) :: (Value.ref 146) :: (Value.int 70 0) :: (Value.int 4 0) :: (Value.ref 153) :: (Value.int 73 0) :: (Value.int 4 0) :: (Value.ref 160) :: (Value.int 81 0) :: (Value.int 4 0) :: (Value.ref 167) :: []))) (List.toArray []))
noncomputable def o54_83 : Params → Obj := fun P => (Obj.mk (Value.type "code") none (Data.fields (List.toArray [(Value.str (Str.ofString "Headers") 353), (Value.str (Str.ofString "Headers") 354), (Value.str (Str.ofString "/claim/cut.py") 355), (Value.int 8 0), (Value.int 0 0), (Value.int 0 0), (Value.int 0 0), (Value.int 0 0), (Value.ref 52), (Value.bool Bool.false), (Value.int 276 0), (Value.ref 53), Value.none, Value.none, Value.none, Value.none, (Value.int 356 0), (Value.int 8 0), (Value.str (Str.ofString "/claim/cut.py") 357)])) (List.toArray []))
noncomputable def o55_84 : Params → Obj := fun P => (Obj.mk (Value.type "frame") none Data.plain (List.toArray [(some (Value.ref 54)), (some (Value.ref 3)), (some (Value.ref 51)), none, (some (Value.str (Str.ofString "cpy313.wsgiref.headers") 289)), none, (some (Value.ref 0))]))
noncomputable def o59_88 : Params → Obj := fun P => (Obj.mk (Value.type "tuple") none (Data.seq (List.toArray [(Value.str (Str.ofString "self") 366), (Value.str (Str.ofString "headers") 367), (Value.str (Str.ofString "k") 368), (Value.str (Str.ofString "v") 369)]) 0) (List.toArray []))
noncomputable def o61_90 : Params → Obj := by
  refine' (?F : (x : Params → Obj) → x = (fun P => (Obj.mk Value.none none (Data.func (FuncData.mk (Str.ofString "__init__") (Str.ofString "Headers.__init__") a5_0 (FuncBody.stmts b5_0) s5_0 0 [] Value.none Value.none Value.none Value.none none Value.none Value.none 0)) (List.toArray []))) → Params → Obj) _ ?h
  case F => exact fun x _ => x
  case h =>
    delta a5_0 b5_0 s5_0
    exact rfl
noncomputable def o62_91 : Params → Obj := fun P => (Obj.mk (Value.type "code") none (Data.fields (List.toArray [(Value.str (Str.ofString "__init__") 363), (Value.str (Str.ofString "Headers.__init__") 364), (Value.str (Str.ofString "/claim/cut.py") 365), (Value.int 10 0), (Value.int 2 0), (Value.int 0 0), (Value.int 0 0), (Value.int 3 0), (Value.ref 57), (Value.bool Bool.true), (Value.int 276 0), (Value.ref 58), Value.none, (Value.ref 59), (Value.ref 60), (Value.ref 61), (Value.int 370 0), (Value.int 10 0), (Value.str (Str.ofString "/claim/cut.py") 371)])) (List.toArray []))
noncomputable def o63_92 : Params → Obj := by
  refine' (?F : (x : Params → Obj) → x = (fun P => (Obj.mk (Value.type "function") none (Data.func (FuncData.mk (Str.ofString "__init__") (Str.ofString "Headers.__init__") a5_0 (FuncBody.stmts b5_0) s5_0 3 [] (Value.ref 56) Value.none Value.none (Value.str (Str.ofString "cpy313.wsgiref.headers") 289) none (Value.ref 62) Value.none 0)) (List.toArray []))) → Params → Obj) _ ?h
  case F => exact fun x _ => x
  case h =>
    delta a5_0 b5_0 s5_0
    exact rfl
noncomputable def o66_95 : Params → Obj := fun P => (Obj.mk (Value.type "tuple") none (Data.seq (List.toArray [(Value.str (Str.ofString "self") 376), (Value.str (Str.ofString "value") 377), (Value.str (Str.ofString "name") 378), (Value.str (Str.ofString "regex") 379)]) 0) (List.toArray []))
noncomputable def o68_97 : Params → Obj := by
  refine' (?F : (x : Params → Obj) → x = (fun P => (Obj.mk Value.none none (Data.func (FuncData.mk (Str.ofString "_convert_string_type") (Str.ofString "Headers._convert_string_type") a5_1 (FuncBody.stmts b5_1) s5_1 0 [] Value.none Value.none Value.none Value.none none Value.none Value.none 0)) (List.toArray []))) → Params → Obj) _ ?h
  case F => exact fun x _ => x
  case h =>
    delta a5_1 b5_1 s5_1
    exact rfl
noncomputable def o69_98 : Params → Obj := fun P => (Obj.mk (Value.type "code") none (Data.fields (List.toArray [(Value.str (Str.ofString "_convert_string_type") 373), (Value.str (Str.ofString "Headers._convert_string_type") 374), (Value.str (Str.ofString "/claim/cut.py") 375), (Value.int 20 0), (Value.int 2 0), (Value.int 0 0), (Value.int 1 0), (Value.int 3 0), (Value.ref 64), (Value.bool Bool.true), (Value.int 276 0), (Value.ref 65), Value.none, (Value.ref 66), (Value.ref 67), (Value.ref 68), (Value.int 380 0), (Value.int 20 0), (Value.str (Str.ofString "/claim/cut.py") 381)])) (List.toArray []))
noncomputable def o70_99 : Params → Obj := by
  refine' (?F : (x : Params → Obj) → x = (fun P => (Obj.mk (Value.type "function") none (Data.func (FuncData.mk (Str.ofString "_convert_string_type") (Str.ofString "Headers._convert_string_type") a5_1 (FuncBody.stmts b5_1) s5_1 3 [] Value.none Value.none Value.none (Value.str (Str.ofString "cpy313.wsgiref.headers") 289) none (Value.ref 69) Value.none 0)) (List.toArray []))) → Params → Obj) _ ?h
  case F => exact fun x _ => x
  case h =>
    delta a5_1 b5_1 s5_1
    exact rfl
noncomputable def o73_102 : Params → Obj := fun P => (Obj.mk (Value.type "tuple") none (Data.seq (List.toArray [(Value.str (Str.ofString "self") 386)]) 0) (List.toArray []))
noncomputable def o75_104 : Params → Obj := by
  refine' (?F : (x : Params → Obj) → x = (fun P => (Obj.mk Value.none none (Data.func (FuncData.mk (Str.ofString "__len__") (Str.ofString "Headers.__len__") a5_2 (FuncBody.stmts b5_2) s5_2 0 [] Value.none Value.none Value.none Value.none none Value.none Value.none 0)) (List.toArray []))) → Params → Obj) _ ?h
  case F => exact fun x _ => x
  case h =>
    delta a5_2 b5_2 s5_2
    exact rfl
noncomputable def o76_105 : Params → Obj := fun P => (Obj.mk (Value.type "code") none (Data.fields (List.toArray [(Value.str (Str.ofString "__len__") 383), (Value.str (Str.ofString "Headers.__len__") 384), (Value.str (Str.ofString "/claim/cut.py") 385), (Value.int 28 0), (Value.int 1 0), (Value.int 0 0), (Value.int 0 0), (Value.int 3 0), (Value.ref 71), (Value.bool Bool.true), (Value.int 276 0), (Value.ref 72), Value.none, (Value.ref 73), (Value.ref 74), (Value.ref 75), (Value.int 387 0), (Value.int 28 0), (Value.str (Str.ofString "/claim/cut.py") 388)])) (List.toArray []))
noncomputable def o77_106 : Params → Obj := by
  refine' (?F : (x : Params → Obj) → x = (fun P => (Obj.mk (Value.type "function") none (Data.func (FuncData.mk (Str.ofString "__len__") (Str.ofString "Headers.__len__") a5_2 (FuncBody.stmts b5_2) s5_2 3 [] Value.none Value.none Value.none (Value.str (Str.ofString "cpy313.wsgiref.headers") 289) none (Value.ref 76) Value.none 0)) (List.toArray []))) → Params → Obj) _ ?h
  case F => exact fun x _ => x
  case h =>
    delta a5_2 b5_2 s5_2
    exact rfl
noncomputable def o80_109 : Params → Obj := fun P => (Obj.mk (Value.type "tuple") none (Data.seq (List.toArray [(Value.str (Str.ofString "self") 393), (Value.str (Str.ofString "name") 394), (Value.str (Str.ofString "val") 395)]) 0) (List.toArray []))
noncomputable def o82_111 : Params → Obj := by
  refine' (?F : (x : Params → Obj) → x = (fun P => (Obj.mk Value.none none (Data.func (FuncData.mk (Str.ofString "__setitem__") (Str.ofString "Headers.__setitem__") a5_3 (FuncBody.stmts b5_3) s5_3 0 [] Value.none Value.none Value.none Value.none none Value.none Value.none 0)) (List.toArray []))) → Params → Obj) _ ?h
  case F => exact fun x _ => x
  case h =>
    delta a5_3 b5_3 s5_3
    exact rfl
noncomputable def o83_112 : Params → Obj := fun P => (Obj.mk (Value.type "code") none (Data.fields (List.toArray [(Value.str (Str.ofString "__setitem__") 390), (Value.str (Str.ofString "Headers.__setitem__") 391), (Value.str (Str.ofString "/claim/cut.py") 392), (Value.int 31 0), (Value.int 3 0), (Value.int 0 0), (Value.int 0 0), (Value.int 3 0), (Value.ref 78), (Value.bool Bool.true), (Value.int 276 0), (Value.ref 79), Value.none, (Value.ref 80), (Value.ref 81), (Value.ref 82), (Value.int 396 0), (Value.int 31 0), (Value.str (Str.ofString "/claim/cut.py") 397)])) (List.toArray []))
noncomputable def o84_113 : Params → Obj := by
  refine' (?F : (x : Params → Obj) → x = (fun P => (Obj.mk (Value.type "function") none (Data.func (FuncData.mk (Str.ofString "__setitem__") (Str.ofString "Headers.__setitem__") a5_3 (FuncBody.stmts b5_3) s5_3 3 [] Value.none Value.none Value.none (Value.str (Str.ofString "cpy313.wsgiref.headers") 289) none (Value.ref 83) Value.none 0)) (List.toArray []))) → Params → Obj) _ ?h
  case F => exact fun x _ => x
  case h =>
    delta a5_3 b5_3 s5_3
    exact rfl
noncomputable def o87_116 : Params → Obj := by
  refine' (?F : (x : Params → Obj) → x = (fun P => (Obj.mk Value.none none (Data.func (FuncData.mk (Str.ofString "__delitem__") (Str.ofString "Headers.__delitem__") a5_4 (FuncBody.stmts b5_4) s5_4 0 [] Value.none Value.none Value.none Value.none none Value.none Value.none 0)) (List.toArray []))) → Params → Obj) _ ?h
  case F => exact fun x _ => x
  case h =>
    delta a5_4 b5_4 s5_4
    exact rfl
noncomputable def o88_117 : Params → Obj := fun P => (Obj.mk (Value.type "code") none (Data.fields (List.toArray [(Value.str (Str.ofString "__delitem__") 399), (Value.str (Str.ofString "Headers.__delitem__") 400), (Value.str (Str.ofString "/claim/cut.py") 401), (Value.int 35 0), (Value.int 2 0), (Value.int 0 0), (Value.int 0 0), (Value.int 3 0), (Value.ref 85), (Value.bool Bool.true), (Value.int 276 0), (Value.ref 86), Value.none, Value.none, Value.none, (Value.ref 87), (Value.int 402 0), (Value.int 35 0), (Value.str (Str.ofString "/claim/cut.py") 403)])) (List.toArray []))
noncomputable def o89_118 : Params → Obj := by
  refine' (?F : (x : Params → Obj) → x = (fun P => (Obj.mk (Value.type "function") none (Data.func (FuncData.mk (Str.ofString "__delitem__") (Str.ofString "Headers.__delitem__") a5_4 (FuncBody.stmts b5_4) s5_4 3 [] Value.none Value.none Value.none (Value.str (Str.ofString "cpy313.wsgiref.headers") 289) none (Value.ref 88) Value.none 0)) (List.toArray []))) → Params → Obj) _ ?h
  case F => exact fun x _ => x
  case h =>
    delta a5_4 b5_4 s5_4
    exact rfl
noncomputable def o92_121 : Params → Obj := fun P => (Obj.mk (Value.type "tuple") none (Data.seq (List.toArray [(Value.str (Str.ofString "self") 408), (Value.str (Str.ofString "name") 409)]) 0) (List.toArray []))
noncomputable def o94_123 : Params → Obj := by
  refine' (?F : (x : Params → Obj) → x = (fun P => (Obj.mk Value.none none (Data.func (FuncData.mk (Str.ofString "__getitem__") (Str.ofString "Headers.__getitem__") a5_5 (FuncBody.stmts b5_5) s5_5 0 [] Value.none Value.none Value.none Value.none none Value.none Value.none 0)) (List.toArray []))) → Params → Obj) _ ?h
  case F => exact fun x _ => x
  case h =>
    delta a5_5 b5_5 s5_5
    exact rfl
noncomputable def o95_124 : Params → Obj := fun P => (Obj.mk (Value.type "code") none (Data.fields (List.toArray [(Value.str (Str.ofString "__getitem__") 405), (Value.str (Str.ofString "Headers.__getitem__") 406), (Value.str (Str.ofString "/claim/cut.py") 407), (Value.int 39 0), (Value.int 2 0), (Value.int 0 0), (Value.int 0 0), (Value.int 3 0), (Value.ref 90), (Value.bool Bool.true), (Value.int 276 0), (Value.ref 91), Value.none, (Value.ref 92), (Value.ref 93), (Value.ref 94), (Value.int 410 0), (Value.int 39 0), (Value.str (Str.ofString "/claim/cut.py") 411)])) (List.toArray []))
noncomputable def o96_125 : Params → Obj := by
  refine' (?F : (x : Params → Obj) → x = (fun P => (Obj.mk (Value.type "function") none (Data.func (FuncData.mk (Str.ofString "__getitem__") (Str.ofString "Headers.__getitem__") a5_5 (FuncBody.stmts b5_5) s5_5 3 [] Value.none Value.none Value.none (Value.str (Str.ofString "cpy313.wsgiref.headers") 289) none (Value.ref 95) Value.none 0)) (List.toArray []))) → Params → Obj) _ ?h
  case F => exact fun x _ => x
  case h =>
    delta a5_5 b5_5 s5_5
    exact rfl
noncomputable def o99_128 : Params → Obj := fun P => (Obj.mk (Value.type "tuple") none (Data.seq (List.toArray [(Value.str (Str.ofString "self") 416), (Value.str (Str.ofString "name") 417)]) 0) (List.toArray []))
noncomputable def o101_130 : Params → Obj := by
  refine' (?F : (x : Params → Obj) → x = (fun P => (Obj.mk Value.none none (Data.func (FuncData.mk (Str.ofString "__contains__") (Str.ofString "Headers.__contains__") a5_6 (FuncBody.stmts b5_6) s5_6 0 [] Value.none Value.none Value.none Value.none none Value.none Value.none 0)) (List.toArray []))) → Params → Obj) _ ?h
  case F => exact fun x _ => x
  case h =>
    delta a5_6 b5_6 s5_6
    exact rfl
noncomputable def o102_131 : Params → Obj := fun P => (Obj.mk (Value.type "code") none (Data.fields (List.toArray [(Value.str (Str.ofString "__contains__") 413), (Value.str (Str.ofString "Headers.__contains__") 414), (Value.str (Str.ofString "/claim/cut.py") 415), (Value.int 42 0), (Value.int 2 0), (Value.int 0 0), (Value.int 0 0), (Value.int 3 0), (Value.ref 97), (Value.bool Bool.true), (Value.int 276 0), (Value.ref 98), Value.none, (Value.ref 99), (Value.ref 100), (Value.ref 101), (Value.int 418 0), (Value.int 42 0), (Value.str (Str.ofString "/claim/cut.py") 419)])) (List.toArray []))
noncomputable def o103_132 : Params → Obj := by
  refine' (?F : (x : Params → Obj) → x = (fun P => (Obj.mk (Value.type "function") none (Data.func (FuncData.mk (Str.ofString "__contains__") (Str.ofString "Headers.__contains__") a5_6 (FuncBody.stmts b5_6) s5_6 3 [] Value.none Value.none Value.none (Value.str (Str.ofString "cpy313.wsgiref.headers") 289) none (Value.ref 102) Value.none 0)) (List.toArray []))) → Params → Obj) _ ?h
  case F => exact fun x _ => x
  case h =>
    delta a5_6 b5_6 s5_6
    exact rfl
noncomputable def o106_135 : Params → Obj := fun P => (Obj.mk (Value.type "tuple") none (Data.seq (List.toArray [(Value.str (Str.ofString "self") 424), (Value.str (Str.ofString "name") 425)]) 0) (List.toArray []))
noncomputable def o108_137 : Params → Obj := by
  refine' (?F : (x : Params → Obj) → x = (fun P => (Obj.mk Value.none none (Data.func (FuncData.mk (Str.ofString "get_all") (Str.ofString "Headers.get_all") a5_7 (FuncBody.stmts b5_7) s5_7 0 [] Value.none Value.none Value.none Value.none none Value.none Value.none 0)) (List.toArray []))) → Params → Obj) _ ?h
  case F => exact fun x _ => x
  case h =>
    delta a5_7 b5_7 s5_7
    exact rfl
noncomputable def o109_138 : Params → Obj := fun P => (Obj.mk (Value.type "code") none (Data.fields (List.toArray [(Value.str (Str.ofString "get_all") 421), (Value.str (Str.ofString "Headers.get_all") 422), (Value.str (Str.ofString "/claim/cut.py") 423), (Value.int 45 0), (Value.int 2 0), (Value.int 0 0), (Value.int 0 0), (Value.int 3 0), (Value.ref 104), (Value.bool Bool.true), (Value.int 276 0), (Value.ref 105), Value.none, (Value.ref 106), (Value.ref 107), (Value.ref 108), (Value.int 426 0), (Value.int 45 0), (Value.str (Str.ofString "/claim/cut.py") 427)])) (List.toArray []))
noncomputable def o110_139 : Params → Obj := by
  refine' (?F : (x : Params → Obj) → x = (fun P => (Obj.mk (Value.type "function") none (Data.func (FuncData.mk (Str.ofString "get_all") (Str.ofString "Headers.get_all") a5_7 (FuncBody.stmts b5_7) s5_7 3 [] Value.none Value.none Value.none (Value.str (Str.ofString "cpy313.wsgiref.headers") 289) none (Value.ref 109) Value.none 0)) (List.toArray []))) → Params → Obj) _ ?h
  case F => exact fun x _ => x
  case h =>
    delta a5_7 b5_7 s5_7
    exact rfl
noncomputable def o114_143 : Params → Obj := fun P => (Obj.mk (Value.type "tuple") none (Data.seq (List.toArray [(Value.str (Str.ofString "self") 432), (Value.str (Str.ofString "name") 433), (Value.str (Str.ofString "default") 434), (Value.str (Str.ofString "k") 435), (Value.str (Str.ofString "v") 436)]) 0) (List.toArray []))
noncomputable def o116_145 : Params → Obj := by
  refine' (?F : (x : Params → Obj) → x = (fun P => (Obj.mk Value.none none (Data.func (FuncData.mk (Str.ofString "get") (Str.ofString "Headers.get") a5_8 (FuncBody.stmts b5_8) s5_8 0 [] Value.none Value.none Value.none Value.none none Value.none Value.none 0)) (List.toArray []))) → Params → Obj) _ ?h
  case F => exact fun x _ => x
  case h =>
    delta a5_8 b5_8 s5_8
    exact rfl
noncomputable def o117_146 : Params → Obj := fun P => (Obj.mk (Value.type "code") none (Data.fields (List.toArray [(Value.str (Str.ofString "get") 429), (Value.str (Str.ofString "Headers.get") 430), (Value.str (Str.ofString "/claim/cut.py") 431), (Value.int 48 0), (Value.int 3 0), (Value.int 0 0), (Value.int 0 0), (Value.int 3 0), (Value.ref 112), (Value.bool Bool.true), (Value.int 276 0), (Value.ref 113), Value.none, (Value.ref 114), (Value.ref 115), (Value.ref 116), (Value.int 437 0), (Value.int 48 0), (Value.str (Str.ofString "/claim/cut.py") 438)])) (List.toArray []))
noncomputable def o118_147 : Params → Obj := by
  refine' (?F : (x : Params → Obj) → x = (fun P => (Obj.mk (Value.type "function") none (Data.func (FuncData.mk (Str.ofString "get") (Str.ofString "Headers.get") a5_8 (FuncBody.stmts b5_8) s5_8 3 [] (Value.ref 111) Value.none Value.none (Value.str (Str.ofString "cpy313.wsgiref.headers") 289) none (Value.ref 117) Value.none 0)) (List.toArray []))) → Params → Obj) _ ?h
  case F => exact fun x _ => x
  case h =>
    delta a5_8 b5_8 s5_8
    exact rfl
noncomputable def o121_150 : Params → Obj := by
  refine' (?F : (x : Params → Obj) → x = (fun P => (Obj.mk Value.none none (Data.func (FuncData.mk (Str.ofString "keys") (Str.ofString "Headers.keys") a5_9 (FuncBody.stmts b5_9) s5_9 0 [] Value.none Value.none Value.none Value.none none Value.none Value.none 0)) (List.toArray []))) → Params → Obj) _ ?h
  case F => exact fun x _ => x
  case h =>
    delta a5_9 b5_9 s5_9
    exact rfl
noncomputable def o122_151 : Params → Obj := fun P => (Obj.mk (Value.type "code") none (Data.fields (List.toArray [(Value.str (Str.ofString "keys") 440), (Value.str (Str.ofString "Headers.keys") 441), (Value.str (Str.ofString "/claim/cut.py") 442), (Value.int 55 0), (Value.int 1 0), (Value.int 0 0), (Value.int 0 0), (Value.int 3 0), (Value.ref 119), (Value.bool Bool.true), (Value.int 276 0), (Value.ref 120), Value.none, Value.none, Value.none, (Value.ref 121), (Value.int 443 0), (Value.int 55 0), (Value.str (Str.ofString "/claim/cut.py") 444)])) (List.toArray []))
noncomputable def o123_152 : Params → Obj := by
  refine' (?F : (x : Params → Obj) → x = (fun P => (Obj.mk (Value.type "function") none (Data.func (FuncData.mk (Str.ofString "keys") (Str.ofString "Headers.keys") a5_9 (FuncBody.stmts b5_9) s5_9 3 [] Value.none Value.none Value.none (Value.str (Str.ofString "cpy313.wsgiref.headers") 289) none (Value.ref 122) Value.none 0)) (List.toArray []))) → Params → Obj) _ ?h
  case F => exact fun x _ => x
  case h =>
    delta a5_9 b5_9 s5_9
    exact rfl
noncomputable def o126_155 : Params → Obj := by
  refine' (?F : (x : Params → Obj) → x = (fun P => (Obj.mk Value.none none (Data.func (FuncData.mk (Str.ofString "values") (Str.ofString "Headers.values") a5_10 (FuncBody.stmts b5_10) s5_10 0 [] Value.none Value.none Value.none Value.none none Value.none Value.none 0)) (List.toArray []))) → Params → Obj) _ ?h
  case F => exact fun x _ => x
  case h =>
    delta a5_10 b5_10 s5_10
    exact rfl
noncomputable def o127_156 : Params → Obj := fun P => (Obj.mk (Value.type "code") none (Data.fields (List.toArray [(Value.str (Str.ofString "values") 446), (Value.str (Str.ofString "Headers.values") 447), (Value.str (Str.ofString "/claim/cut.py") 448), (Value.int 58 0), (Value.int 1 0), (Value.int 0 0), (Value.int 0 0), (Value.int 3 0), (Value.ref 124), (Value.bool Bool.true), (Value.int 276 0), (Value.ref 125), Value.none, Value.none, Value.none, (Value.ref 126), (Value.int 449 0), (Value.int 58 0), (Value.str (Str.ofString "/claim/cut.py") 450)])) (List.toArray []))
noncomputable def o128_157 : Params → Obj := by
  refine' (?F : (x : Params → Obj) → x = (fun P => (Obj.mk (Value.type "function") none (Data.func (FuncData.mk (Str.ofString "values") (Str.ofString "Headers.values") a5_10 (FuncBody.stmts b5_10) s5_10 3 [] Value.none Value.none Value.none (Value.str (Str.ofString "cpy313.wsgiref.headers") 289) none (Value.ref 127) Value.none 0)) (List.toArray []))) → Params → Obj) _ ?h
  case F => exact fun x _ => x
  case h =>
    delta a5_10 b5_10 s5_10
    exact rfl
noncomputable def o131_160 : Params → Obj := fun P => (Obj.mk (Value.type "tuple") none (Data.seq (List.toArray [(Value.str (Str.ofString "self") 455)]) 0) (List.toArray []))
noncomputable def o133_162 : Params → Obj := by
  refine' (?F : (x : Params → Obj) → x = (fun P => (Obj.mk Value.none none (Data.func (FuncData.mk (Str.ofString "items") (Str.ofString "Headers.items") a5_11 (FuncBody.stmts b5_11) s5_11 0 [] Value.none Value.none Value.none Value.none none Value.none Value.none 0)) (List.toArray []))) → Params → Obj) _ ?h
  case F => exact fun x _ => x
  case h =>
    delta a5_11 b5_11 s5_11
    exact rfl
noncomputable def o134_163 : Params → Obj := fun P => (Obj.mk (Value.type "code") none (Data.fields (List.toArray [(Value.str (Str.ofString "items") 452), (Value.str (Str.ofString "Headers.items") 453), (Value.str (Str.ofString "/claim/cut.py") 454), (Value.int 61 0), (Value.int 1 0), (Value.int 0 0), (Value.int 0 0), (Value.int 3 0), (Value.ref 129), (Value.bool Bool.true), (Value.int 276 0), (Value.ref 130), Value.none, (Value.ref 131), (Value.ref 132), (Value.ref 133), (Value.int 456 0), (Value.int 61 0), (Value.str (Str.ofString "/claim/cut.py") 457)])) (List.toArray []))
noncomputable def o135_164 : Params → Obj := by
  refine' (?F : (x : Params → Obj) → x = (fun P => (Obj.mk (Value.type "function") none (Data.func (FuncData.mk (Str.ofString "items") (Str.ofString "Headers.items") a5_11 (FuncBody.stmts b5_11) s5_11 3 [] Value.none Value.none Value.none (Value.str (Str.ofString "cpy313.wsgiref.headers") 289) none (Value.ref 134) Value.none 0)) (List.toArray []))) → Params → Obj) _ ?h
  case F => exact fun x _ => x
  case h =>
    delta a5_11 b5_11 s5_11
    exact rfl
noncomputable def o138_167 : Params → Obj := fun P => (Obj.mk (Value.type "tuple") none (Data.seq (List.toArray [(Value.str (Str.ofString "self") 462)]) 0) (List.toArray []))
noncomputable def o140_169 : Params → Obj := by
  refine' (?F : (x : Params → Obj) → x = (fun P => (Obj.mk Value.none none (Data.func (FuncData.mk (Str.ofString "__repr__") (Str.ofString "Headers.__repr__") a5_12 (FuncBody.stmts b5_12) s5_12 0 [] Value.none Value.none Value.none Value.none none Value.none Value.none 0)) (List.toArray []))) → Params → Obj) _ ?h
  case F => exact fun x _ => x
  case h =>
    delta a5_12 b5_12 s5_12
    exact rfl
noncomputable def o141_170 : Params → Obj := fun P => (Obj.mk (Value.type "code") none (Data.fields (List.toArray [(Value.str (Str.ofString "__repr__") 459), (Value.str (Str.ofString "Headers.__repr__") 460), (Value.str (Str.ofString "/claim/cut.py") 461), (Value.int 64 0), (Value.int 1 0), (Value.int 0 0), (Value.int 0 0), (Value.int 3 0), (Value.ref 136), (Value.bool Bool.true), (Value.int 276 0), (Value.ref 137), Value.none, (Value.ref 138), (Value.ref 139), (Value.ref 140), (Value.int 463 0), (Value.int 64 0), (Value.str (Str.ofString "/claim/cut.py") 464)])) (List.toArray []))
noncomputable def o142_171 : Params → Obj := by
  refine' (?F : (x : Params → Obj) → x = (fun P => (Obj.mk (Value.type "function") none (Data.func (FuncData.mk (Str.ofString "__repr__") (Str.ofString "Headers.__repr__") a5_12 (FuncBody.stmts b5_12) s5_12 3 [] Value.none Value.none Value.none (Value.str (Str.ofString "cpy313.wsgiref.headers") 289) none (Value.ref 141) Value.none 0)) (List.toArray []))) → Params → Obj) _ ?h
  case F => exact fun x _ => x
  case h =>
    delta a5_12 b5_12 s5_12
    exact rfl
noncomputable def o145_174 : Params → Obj := by
  refine' (?F : (x : Params → Obj) → x = (fun P => (Obj.mk Value.none none (Data.func (FuncData.mk (Str.ofString "__str__") (Str.ofString "Headers.__str__") a5_13 (FuncBody.stmts b5_13) s5_13 0 [] Value.none Value.none Value.none Value.none none Value.none Value.none 0)) (List.toArray []))) → Params → Obj) _ ?h
  case F => exact fun x _ => x
  case h =>
    delta a5_13 b5_13 s5_13
    exact rfl
noncomputable def o146_175 : Params → Obj := fun P => (Obj.mk (Value.type "code") none (Data.fields (List.toArray [(Value.str (Str.ofString "__str__") 466), (Value.str (Str.ofString "Headers.__str__") 467), (Value.str (Str.ofString "/claim/cut.py") 468), (Value.int 67 0), (Value.int 1 0), (Value.int 0 0), (Value.int 0 0), (Value.int 3 0), (Value.ref 143), (Value.bool Bool.true), (Value.int 276 0), (Value.ref 144), Value.none, Value.none, Value.none, (Value.ref 145), (Value.int 469 0), (Value.int 67 0), (Value.str (Str.ofString "/claim/cut.py") 470)])) (List.toArray []))
noncomputable def o147_176 : Params → Obj := by
  refine' (?F : (x : Params → Obj) → x = (fun P => (Obj.mk (Value.type "function") none (Data.func (FuncData.mk (Str.ofString "__str__") (Str.ofString "Headers.__str__") a5_13 (FuncBody.stmts b5_13) s5_13 3 [] Value.none Value.none Value.none (Value.str (Str.ofString "cpy313.wsgiref.headers") 289) none (Value.ref 146) Value.none 0)) (List.toArray []))) → Params → Obj) _ ?h
  case F => exact fun x _ => x
  case h =>
    delta a5_13 b5_13 s5_13
    exact rfl
noncomputable def o150_179 : Params → Obj := fun P => (Obj.mk (Value.type "tuple") none (Data.seq (List.toArray [(Value.str (Str.ofString "self") 475)]) 0) (List.toArray []))
noncomputable def o152_181 : Params → Obj := by
  refine' (?F : (x : Params → Obj) → x = (fun P => (Obj.mk Value.none none (Data.func (FuncData.mk (Str.ofString "__bytes__") (Str.ofString "Headers.__bytes__") a5_14 (FuncBody.stmts b5_14) s5_14 0 [] Value.none Value.none Value.none Value.none none Value.none Value.none 0)) (List.toArray []))) → Params → Obj) _ ?h
  case F => exact fun x _ => x
  case h =>
    delta a5_14 b5_14 s5_14
    exact rfl
noncomputable def o153_182 : Params → Obj := fun P => (Obj.mk (Value.type "code") none (Data.fields (List.toArray [(Value.str (Str.ofString "__bytes__") 472), (Value.str (Str.ofString "Headers.__bytes__") 473), (Value.str (Str.ofString "/claim/cut.py") 474), (Value.int 70 0), (Value.int 1 0), (Value.int 0 0), (Value.int 0 0), (Value.int 3 0), (Value.ref 148), (Value.bool Bool.true), (Value.int 276 0), (Value.ref 149), Value.none, (Value.ref 150), (Value.ref 151), (Value.ref 152), (Value.int 476 0), (Value.int 70 0), (Value.str (Str.ofString "/claim/cut.py") 477)])) (List.toArray []))
noncomputable def o154_183 : Params → Obj := by
  refine' (?F : (x : Params → Obj) → x = (fun P => (Obj.mk (Value.type "function") none (Data.func (FuncData.mk (Str.ofString "__bytes__") (Str.ofString "Headers.__bytes__") a5_14 (FuncBody.stmts b5_14) s5_14 3 [] Value.none Value.none Value.none (Value.str (Str.ofString "cpy313.wsgiref.headers") 289) none (Value.ref 153) Value.none 0)) (List.toArray []))) → Params → Obj) _ ?h
  case F => exact fun x _ => x
  case h =>
    delta a5_14 b5_14 s5_14
    exact rfl
noncomputable def o157_186 : Params → Obj := fun P => (Obj.mk (Value.type "tuple") none (Data.seq (List.toArray [(Value.str (Str.ofString "self") 482), (Value.str (Str.ofString "name") 483), (Value.str (Str.ofString "value") 484), (Value.str (Str.ofString "result") 485)]) 0) (List.toArray []))
noncomputable def o159_188 : Params → Obj := by
  refine' (?F : (x : Params → Obj) → x = (fun P => (Obj.mk Value.none none (Data.func (FuncData.mk (Str.ofString "setdefault") (Str.ofString "Headers.setdefault") a5_15 (FuncBody.stmts b5_15) s5_15 0 [] Value.none Value.none Value.none Value.none none Value.none Value.none 0)) (List.toArray []))) → Params → Obj) _ ?h
  case F => exact fun x _ => x
  case h =>
    delta a5_15 b5_15 s5_15
    exact rfl
noncomputable def o160_189 : Params → Obj := fun P => (Obj.mk (Value.type "code") none (Data.fields (List.toArray [(Value.str (Str.ofString "setdefault") 479), (Value.str (Str.ofString "Headers.setdefault") 480), (Value.str (Str.ofString "/claim/cut.py") 481), (Value.int 73 0), (Value.int 3 0), (Value.int 0 0), (Value.int 0 0), (Value.int 3 0), (Value.ref 155), (Value.bool Bool.true), (Value.int 276 0), (Value.ref 156), Value.none, (Value.ref 157), (Value.ref 158), (Value.ref 159), (Value.int 486 0), (Value.int 73 0), (Value.str (Str.ofString "/claim/cut.py") 487)])) (List.toArray []))
noncomputable def o161_190 : Params → Obj := by
  refine' (?F : (x : Params → Obj) → x = (fun P => (Obj.mk (Value.type "function") none (Data.func (FuncData.mk (Str.ofString "setdefault") (Str.ofString "Headers.setdefault") a5_15 (FuncBody.stmts b5_15) s5_15 3 [] Value.none Value.none Value.none (Value.str (Str.ofString "cpy313.wsgiref.headers") 289) none (Value.ref 160) Value.none 0)) (List.toArray []))) → Params → Obj) _ ?h
  case F => exact fun x _ => x
  case h =>
    delta a5_15 b5_15 s5_15
    exact rfl
noncomputable def o164_193 : Params → Obj := fun P => (Obj.mk (Value.type "tuple") none (Data.seq (List.toArray [(Value.str (Str.ofString "self") 492), (Value.str (Str.ofString "_name") 493), (Value.str (Str.ofString "_value") 494), (Value.str (Str.ofString "_params") 495)]) 0) (List.toArray []))
noncomputable def o166_195 : Params → Obj := by
  refine' (?F : (x : Params → Obj) → x = (fun P => (Obj.mk Value.none none (Data.func (FuncData.mk (Str.ofString "add_header") (Str.ofString "Headers.add_header") a5_16 (FuncBody.stmts b5_16) s5_16 0 [] Value.none Value.none Value.none Value.none none Value.none Value.none 0)) (List.toArray []))) → Params → Obj) _ ?h
  case F => exact fun x _ => x
  case h =>
    delta a5_16 b5_16 s5_16
    exact rfl
noncomputable def o167_196 : Params → Obj := fun P => (Obj.mk (Value.type "code") none (Data.fields (List.toArray [(Value.str (Str.ofString "add_header") 489), (Value.str (Str.ofString "Headers.add_header") 490), (Value.str (Str.ofString "/claim/cut.py") 491), (Value.int 81 0), (Value.int 3 0), (Value.int 0 0), (Value.int 0 0), (Value.int 11 0), (Value.ref 162), (Value.bool Bool.true), (Value.int 276 0), (Value.ref 163), Value.none, (Value.ref 164), (Value.ref 165), (Value.ref 166), (Value.int 496 0), (Value.int 81 0), (Value.str (Str.ofString "/claim/cut.py") 497)])) (List.toArray []))
noncomputable def o168_197 : Params → Obj := by
  refine' (?F : (x : Params → Obj) → x = (fun P => (Obj.mk (Value.type "function") none (Data.func (FuncData.mk (Str.ofString "add_header") (Str.ofString "Headers.add_header") a5_16 (FuncBody.stmts b5_16) s5_16 3 [] Value.none Value.none Value.none (Value.str (Str.ofString "cpy313.wsgiref.headers") 289) none (Value.ref 167) Value.none 0)) (List.toArray []))) → Params → Obj) _ ?h
  case F => exact fun x _ => x
  case h =>
    delta a5_16 b5_16 s5_16
    exact rfl
noncomputable def o169_198 : Params → Obj := fun P => (Obj.mk (Value.type "tuple") none (Data.seq (List.toArray [(Value.str (Str.ofString "_headers") 499)]) 0) (List.toArray []))
noncomputable def o170_199 : Params → Obj := fun P => (Obj.mk (Value.type "dict") none (Data.dict (List.toArray ((DictEntry.mk (PyData.keyHash P (Str.ofString "__module__")) (Value.str (Str.ofString "__module__") 358) (Value.str (Str.ofString "cpy313.wsgiref.headers") 289)) :: (DictEntry.mk (PyData.keyHash P (Str.ofString "__firstlineno__")) (Value.str (Str.ofString "__firstlineno__") 362) (Value.int 8 361)) :: (DictEntry.mk (PyData.keyHash P (Str.ofString "__init__")) (Value.str (Str.ofString "__init__") 372) (Value.ref 63)) :: (DictEntry.mk (PyData.keyHash P (Str.ofString "_convert_string_type")) (Value.str (Str.ofString "_convert_string_type") 382) (Value.ref 70)) :: (DictEntry.mk (PyData.keyHash P (Str.ofString "__len__")) (Value.str (Str.ofString "__len__") 389) (Value.ref 77)) :: (DictEntry.mk (PyData.keyHash P (Str.ofString "__setitem__")) (Value.str (Str.ofString "__setitem__") 398) (Value.ref 84)) :: (DictEntry.mk (PyData.keyHash P (Str.ofString "__delitem__")) (Value.str (Str.ofString "__delitem__") 404) (Value.ref 89)) :: (DictEntry.mk (PyData.keyHash P (Str.ofString "__getitem__")) (Value.str (Str.ofString "__getitem__") 412) (Value.ref 96)) :: (DictEntry.mk (PyData.keyHash P (Str.ofString "__contains__")) (Value.str (Str.ofString "__contains__") 420) (Value.ref 103)) :: (DictEntry.mk (PyData.keyHash P (Str.ofString "get_all")) (Value.str (Str.ofString "get_all") 428) (Value.ref 110)) :: (DictEntry.mk (PyData.keyHash P (Str.ofString "get")) (Value.str (Str.ofString "get") 439) (Value.ref 118)) :: (DictEntry.mk (PyData.keyHash P (Str.ofString "keys")) (Value.str (Str.ofString "keys") 445) (Value.ref 123)) :: (DictEntry.mk (PyData.keyHash P (Str.ofString "values")) (Value.str (Str.ofString "values") 451) (Value.ref 128)) :: (DictEntry.mk (PyData.keyHash P (Str.ofString "items")) (Value.str (Str.ofString "items") 458) (Value.ref 135)) :: (DictEntry.mk (PyData.keyHash P (Str.ofString "__repr__")) (Value.str (Str.ofString "__repr__") 465) (Value.ref 142)) :: (DictEntry.mk (PyData.keyHash P (Str.ofString "__str__")) (Value.str (Str.ofString "__str__") 471) (Value.ref 147)) :: (DictEntry.mk (PyData.keyHash P (Str.ofString "__bytes__")) (Value.str (Str.ofString "__bytes__") 478) (Value.ref 154)) :: (DictEntry.mk (PyData.keyHash P (Str.ofString "setdefault")) (Value.str (Str.ofString "setdefault") 488) (Value.ref 161)) :: (DictEntry.mk (PyData.keyHash P (Str.ofString "add_header")) (Value.str (Str.ofString "add_header") 498) (Value.ref 168)) :: (DictEntry.mk (PyData.keyHash P (Str.ofString "__static_attributes__")) (Value.str (Str.ofString "__static_attributes__") 500) (Value.ref 169)) :: (DictEntry.mk (PyData.keyHash P (Str.ofString "__dict__")) (Value.str (Str.ofString "__dict__") 502) (Value.ref 172)) :: (DictEntry.mk (PyData.keyHash P (Str.ofString "__weakref__")) (Value.str (Str.ofString "__weakref__") 504) (Value.ref 173)) :: (DictEntry.mk (PyData.keyHash P (Str.ofString "__doc__")) (Value.str (Str.ofString "__doc__") 505) Value.none) :: [])) 4) (List.toArray []))
noncomputable def o171_200 : Params → Obj := fun P => (Obj.mk (Value.type "type") none (Data.cls (ClassData.mk (Str.ofString "Headers") [(Value.type "object")] [(Value.ref 171), (Value.type "object")] 170 (Str.ofString "Headers") Bool.true [] [] Bool.false none Bool.false)) (List.toArray [none, none, (some (Value.str (Str.ofString "Headers") 351)), (some (Value.str (Str.ofString "Headers") 359)), (some (Value.builtin "object.__new__")), (some (Value.bool Bool.true))]))
noncomputable def o172_201 : Params → Obj := fun P => (Obj.mk (Value.type "getset_descriptor") none (Data.fields (List.toArray [(Value.str (Str.ofString "__dict__") 501), (Value.ref 171), (Value.builtin "function.__dict__"), (Value.builtin "function.__dict__#set")])) (List.toArray []))
noncomputable def o173_202 : Params → Obj := fun P => (Obj.mk (Value.type "getset_descriptor") none (Data.fields (List.toArray [(Value.str (Str.ofString "__weakref__") 503), (Value.ref 171), (Value.builtin "ExceptionGroup.__weakref__"), Value.none])) (List.toArray []))
noncomputable def o174_203 : Params → Obj := fun P => (Obj.mk (Value.type "super") none (Data.fields (List.toArray [(Value.ref 171), (Value.ref 171), (Value.ref 171)])) (List.toArray []))
noncomputable def o175_204 : Params → Obj := fun P => (Obj.mk (Value.type "builtin_function_or_method") none (Data.fields (List.toArray [(Value.builtin "object.__init_subclass__"), (Value.ref 171)])) (List.toArray []))
noncomputable def o3_205 : Params → Obj := fun P => (Obj.mk (Value.type "dict") none (Data.dict (List.toArray ((DictEntry.mk (PyData.keyHash P (Str.ofString "__name__")) (Value.str (Str.ofString "__name__") 165) (Value.str (Str.ofString "collections.abc") 602)) :: (DictEntry.mk (PyData.keyHash P (Str.ofString "__doc__")) (Value.str (Str.ofString "__doc__") 166) Value.none) :: (DictEntry.mk (PyData.keyHash P (Str.ofString "__package__")) (Value.str (Str.ofString "__package__") 167) Value.none) :: (DictEntry.mk (PyData.keyHash P (Str.ofString "__loader__")) (Value.str (Str.ofString "__loader__") 168) (Value.builtin "__main__.__loader__#opaque")) :: (DictEntry.mk (PyData.keyHash P (Str.ofString "__spec__")) (Value.str (Str.ofString "__spec__") 169) Value.none) :: (DictEntry.mk (PyData.keyHash P (Str.ofString "__annotations__")) (Value.str (Str.ofString "__annotations__") 170) (Value.ref 6)) :: (DictEntry.mk (PyData.keyHash P (Str.ofString "__builtins__")) (Value.str (Str.ofString "__builtins__") 171) (Value.ref 4)) :: (DictEntry.mk (PyData.keyHash P (Str.ofString "__file__")) (Value.str (Str.ofString "__file__") 173) (Value.str (Str.ofString "/claim/cut.py") 172)) :: (DictEntry.mk (PyData.keyHash P (Str.ofString "__cached__")) (Value.str (Str.ofString "__cached__") 174) Value.none) :: (DictEntry.mk (PyData.keyHash P (Str.ofString "_sre")) (Value.str (Str.ofString "_sre") 275) (Value.ref 12)) :: (DictEntry.mk (PyData.keyHash P (Str.ofString "_wall")) (Value.str (Str.ofString "_wall") 288) (Value.ref 38)) :: (DictEntry.mk (PyData.keyHash P (Str.ofString "_name_disallowed_re")) (Value.str (Str.ofString "_name_disallowed_re") 316) (Value.ref 43)) :: (DictEntry.mk (PyData.keyHash P (Str.ofString "_value_disallowed_re")) (Value.str (Str.ofString "_value_disallowed_re") 350) (Value.ref 48)) :: (DictEntry.mk (PyData.keyHash P (Str.ofString "Headers")) (Value.str (Str.ofString "Headers") 507) (Value.ref 171)) :: (DictEntry.mk (PyData.keyHash P (Str.ofString "_buffer")) (Value.str (Str.ofString "_buffer") 517) (Value.ref 182)) :: (DictEntry.mk (PyData.keyHash P (Str.ofString "_truth")) (Value.str (Str.ofString "_truth") 525) (Value.ref 189)) :: (DictEntry.mk (PyData.keyHash P (Str.ofString "_B64")) (Value.str (Str.ofString "_B64") 527) (Value.bytes (List.toArray (65 :: 66 :: 67 :: 68 :: 69 :: 70 :: 71 :: 72 :: 73 :: 74 :: 75 :: 76 :: 77 :: 78 :: 79 :: 80 :: 81 :: 82 :: 83 :: 84 :: 85 :: 86 :: 87 :: 88 :: 89 :: 90 :: 97 :: 98 :: 99 :: 100 :: 101 :: 102 :: 103 :: 104 :: 105 :: 106 :: 107 :: 108 :: 109 :: 110 :: 111 :: 112 :: 113 :: 114 :: 115 :: 116 :: 117 :: 118 :: 119 :: 120 :: 121 :: 122 :: 48 :: 49 :: 50 :: 51 :: 52 :: 53 :: 54 :: 55 :: 56 :: 57 :: 43 :: 47 :: [])) 526)) :: (DictEntry.mk (PyData.keyHash P (Str.ofString "b2a_base64")) (Value.str (Str.ofString "b2a_base64") 541) (Value.ref 197)) :: (DictEntry.mk (PyData.keyHash P (Str.ofString "b64encode")) (Value.str (Str.ofString "b64encode") 552) (Value.ref 205)) :: (DictEntry.mk (PyData.keyHash P (Str.ofString "_urlsafe_encode_translation")) (Value.str (Str.ofString "_urlsafe_encode_translation") 557) (Value.bytes (List.toArray (0 :: 1 :: 2 :: 3 :: 4 :: 5 :: 6 :: 7 :: 8 :: 9 :: 10 :: 11 :: 12 :: 13 :: 14 :: 15 :: 16 :: 17 :: 18 :: 19 :: 20 :: 21 :: 22 :: 23 :: 24 :: 25 :: 26 :: 27 :: 28 :: 29 :: 30 :: 31 :: 32 :: 33 :: 34 :: 35 :: 36 :: 37 :: 38 :: 39 :: 40 :: 41 :: 42 :: 45 :: 44 :: 45 :: 46 :: 95 :: 48 :: 49 :: 50 :: 51 :: 52 :: 53 :: 54 :: 55 :: 56 :: 57 :: 58 :: 59 :: 60 :: 61 :: 62 :: 63 :: 64 :: 65 :: 66 :: 67 :: 68 :: 69 :: 70 :: 71 :: 72 :: 73 :: 74 :: 75 :: 76 :: 77 :: 78 :: 79 :: 80 :: 81 :: 82 :: 83 :: 84 :: 85 :: 86 :: 87 :: 88 :: 89 :: 90 :: 91 :: 92 :: 93 :: 94 :: 95 :: 96 :: 97 :: 98 :: 99 :: 100 :: 101 :: 102 :: 103 :: 104 :: 105 :: 106 :: 107 :: 108 :: 109 :: 110 :: 111 :: 112 :: 113 :: 114 :: 115 :: 116 :: 117 :: 118 :: 119 :: 120 :: 121 :: 122 :: 123 :: 124 :: 125 :: 126 :: 127 :: 128 :: 129 :: 130 :: 131 :: 132 :: 133 :: 134 :: 135 :: 136 :: 137 :: 138 :: 139 :: 140 :: 141 :: 142 :: 143 :: 144 :: 145 :: 146 :: 147 :: 148 :: 149 :: 150 :: 151 :: 152 :: 153 :: 154 :: 155 :: 156 :: 157 :: 158 :: 159 :: 160 :: 161 :: 162 :: 163 :: 164 :: 165 :: 166 :: 167 :: 168 :: 169 :: 170 :: 171 :: 172 :: 173 :: 174 :: 175 :: 176 :: 177 :: 178 :: 179 :: 180 :: 181 :: 182 :: 183 :: 184 :: 185 :: 186 :: 187 :: 188 :: 189 :: 190 :: 191 :: 192 :: 193 :: 194 :: 195 :: 196 :: 197 :: 198 :: 199 :: 200 :: 201 :: 202 :: 203 :: 204 :: 205 :: 206 :: 207 :: 208 :: 209 :: 210 :: 211 :: 212 :: 213 :: 214 :: 215 :: 216 :: 217 :: 218 :: 219 :: 220 :: 221 :: 222 :: 223 :: 224 :: 225 :: 226 :: 227 :: 228 :: 229 :: 230 :: 231 :: 232 :: 233 :: 234 :: 235 :: 236 :: 237 :: 238 :: 239 :: 240 :: 241 :: 242 :: 243 :: 244 :: 245 :: 246 :: 247 :: 248 :: 249 :: 250 :: 251 :: 252 :: 253 :: 254 :: 255 :: [])) 556)) :: (DictEntry.mk (PyData.keyHash P (Str.ofString "urlsafe_b64encode")) (Value.str (Str.ofString "urlsafe_b64encode") 564) (Value.ref 212)) :: (DictEntry.mk (PyData.keyHash P (Str.ofString "_plain_name")) (Value.str (Str.ofString "_plain_name") 575) (Value.ref 219)) :: (DictEntry.mk (PyData.keyHash P (Str.ofString "ABCMeta")) (Value.str (Str.ofString "ABCMeta") 601) (Value.ref 236)) :: [])) 23) (List.toArray []))
noncomputable def o29_206 : Params → Obj := fun P => (Obj.mk Value.none none (Data.fields (List.toArray ((Value.int 2 0) :: (Value.int 0 0) :: (Value.ref 37) :: (Value.int 8 0) :: (Value.int 0 0) :: (Value.ref 54) :: (Value.int 84 0) :: (Value.int 0 0) :: (Value.ref 181) :: (Value.int 91 0) :: (Value.int 0 0) :: (Value.ref 188) :: (Value.int 97 0) :: (Value.int 0 0) :: (Value.ref 196) :: (Value.int 120 0) :: (Value.int 0 0) :: (Value.ref 204) :: (Value.int 127 0) :: (Value.int 0 0) :: (Value.ref 211) :: (Value.int 130 0) :: (Value.int 0 0) :: (Value.ref 218) :: (Value.int 136 0) :: (Value.int 0 0) :: (Value.ref 225) :: []))) (List.toArray []))
noncomputable def o178_209 : Params → Obj := fun P => (Obj.mk (Value.type "tuple") none (Data.seq (List.toArray [(Value.str (Str.ofString "data") 513), (Value.str (Str.ofString "t") 514)]) 0) (List.toArray []))
noncomputable def o180_211 : Params → Obj := by
  refine' (?F : (x : Params → Obj) → x = (fun P => (Obj.mk Value.none none (Data.func (FuncData.mk (Str.ofString "_buffer") (Str.ofString "_buffer") a7 (FuncBody.stmts b7) s7 0 [] Value.none Value.none Value.none Value.none none Value.none Value.none 0)) (List.toArray []))) → Params → Obj) _ ?h
  case F => exact fun x _ => x
  case h =>
    delta a7 b7 s7
    exact rfl
noncomputable def o181_212 : Params → Obj := fun P => (Obj.mk (Value.type "code") none (Data.fields (List.toArray [(Value.str (Str.ofString "_buffer") 510), (Value.str (Str.ofString "_buffer") 511), (Value.str (Str.ofString "/claim/cut.py") 512), (Value.int 84 0), (Value.int 1 0), (Value.int 0 0), (Value.int 0 0), (Value.int 3 0), (Value.ref 176), (Value.bool Bool.true), (Value.int 276 0), (Value.ref 177), Value.none, (Value.ref 178), (Value.ref 179), (Value.ref 180), (Value.int 515 0), (Value.int 84 0), (Value.str (Str.ofString "/claim/cut.py") 516)])) (List.toArray []))
noncomputable def o182_213 : Params → Obj := by
  refine' (?F : (x : Params → Obj) → x = (fun P => (Obj.mk (Value.type "function") none (Data.func (FuncData.mk (Str.ofString "_buffer") (Str.ofString "_buffer") a7 (FuncBody.stmts b7) s7 3 [] Value.none Value.none Value.none (Value.str (Str.ofString "binascii") 508) none (Value.ref 181) Value.none 0)) (List.toArray []))) → Params → Obj) _ ?h
  case F => exact fun x _ => x
  case h =>
    delta a7 b7 s7
    exact rfl
noncomputable def o185_216 : Params → Obj := fun P => (Obj.mk (Value.type "tuple") none (Data.seq (List.toArray [(Value.str (Str.ofString "x") 521), (Value.str (Str.ofString "t") 522)]) 0) (List.toArray []))
noncomputable def o187_218 : Params → Obj := by
  refine' (?F : (x : Params → Obj) → x = (fun P => (Obj.mk Value.none none (Data.func (FuncData.mk (Str.ofString "_truth") (Str.ofString "_truth") a8 (FuncBody.stmts b8) s8 0 [] Value.none Value.none Value.none Value.none none Value.none Value.none 0)) (List.toArray []))) → Params → Obj) _ ?h
  case F => exact fun x _ => x
  case h =>
    delta a8 b8 s8
    exact rfl
noncomputable def o188_219 : Params → Obj := fun P => (Obj.mk (Value.type "code") none (Data.fields (List.toArray [(Value.str (Str.ofString "_truth") 518), (Value.str (Str.ofString "_truth") 519), (Value.str (Str.ofString "/claim/cut.py") 520), (Value.int 91 0), (Value.int 1 0), (Value.int 0 0), (Value.int 0 0), (Value.int 3 0), (Value.ref 183), (Value.bool Bool.true), (Value.int 276 0), (Value.ref 184), Value.none, (Value.ref 185), (Value.ref 186), (Value.ref 187), (Value.int 523 0), (Value.int 91 0), (Value.str (Str.ofString "/claim/cut.py") 524)])) (List.toArray []))
noncomputable def o189_220 : Params → Obj := by
  refine' (?F : (x : Params → Obj) → x = (fun P => (Obj.mk (Value.type "function") none (Data.func (FuncData.mk (Str.ofString "_truth") (Str.ofString "_truth") a8 (FuncBody.stmts b8) s8 3 [] Value.none Value.none Value.none (Value.str (Str.ofString "binascii") 508) none (Value.ref 188) Value.none 0)) (List.toArray []))) → Params → Obj) _ ?h
  case F => exact fun x _ => x
  case h =>
    delta a8 b8 s8
    exact rfl
noncomputable def o190_221 : Params → Obj := fun P => (Obj.mk (Value.type "dict") none (Data.dict (List.toArray [(DictEntry.mk (PyData.keyHash P (Str.ofString "newline")) (Value.str (Str.ofString "newline") 528) (Value.bool Bool.true))]) 1) (List.toArray []))
noncomputable def o193_224 : Params → Obj := fun P => (Obj.mk (Value.type "tuple") none (Data.seq (List.toArray [(Value.str (Str.ofString "data") 532), (Value.str (Str.ofString "newline") 533), (Value.str (Str.ofString "bin_data") 534), (Value.str (Str.ofString "out") 535), (Value.str (Str.ofString "leftbits") 536), (Value.str (Str.ofString "leftchar") 537), (Value.str (Str.ofString "b") 538)]) 0) (List.toArray []))
noncomputable def o195_226 : Params → Obj := by
  refine' (?F : (x : Params → Obj) → x = (fun P => (Obj.mk Value.none none (Data.func (FuncData.mk (Str.ofString "b2a_base64") (Str.ofString "b2a_base64") a10 (FuncBody.stmts b10) s10 0 [] Value.none Value.none Value.none Value.none none Value.none Value.none 0)) (List.toArray []))) → Params → Obj) _ ?h
  case F => exact fun x _ => x
  case h =>
    delta a10 b10 s10
    exact rfl
noncomputable def o196_227 : Params → Obj := fun P => (Obj.mk (Value.type "code") none (Data.fields (List.toArray [(Value.str (Str.ofString "b2a_base64") 529), (Value.str (Str.ofString "b2a_base64") 530), (Value.str (Str.ofString "/claim/cut.py") 531), (Value.int 97 0), (Value.int 1 0), (Value.int 1 0), (Value.int 1 0), (Value.int 3 0), (Value.ref 191), (Value.bool Bool.true), (Value.int 276 0), (Value.ref 192), Value.none, (Value.ref 193), (Value.ref 194), (Value.ref 195), (Value.int 539 0), (Value.int 97 0), (Value.str (Str.ofString "/claim/cut.py") 540)])) (List.toArray []))
noncomputable def o197_228 : Params → Obj := by
  refine' (?F : (x : Params → Obj) → x = (fun P => (Obj.mk (Value.type "function") none (Data.func (FuncData.mk (Str.ofString "b2a_base64") (Str.ofString "b2a_base64") a10 (FuncBody.stmts b10) s10 3 [] Value.none (Value.ref 190) Value.none (Value.str (Str.ofString "binascii") 508) none (Value.ref 196) Value.none 0)) (List.toArray []))) → Params → Obj) _ ?h
  case F => exact fun x _ => x
  case h =>
    delta a10 b10 s10
    exact rfl
noncomputable def o201_232 : Params → Obj := fun P => (Obj.mk (Value.type "tuple") none (Data.seq (List.toArray [(Value.str (Str.ofString "s") 547), (Value.str (Str.ofString "altchars") 548), (Value.str (Str.ofString "encoded") 549)]) 0) (List.toArray []))
noncomputable def o203_234 : Params → Obj := by
  refine' (?F : (x : Params → Obj) → x = (fun P => (Obj.mk Value.none none (Data.func (FuncData.mk (Str.ofString "b64encode") (Str.ofString "b64encode") a12 (FuncBody.stmts b12) s12 0 [] Value.none Value.none Value.none Value.none none Value.none Value.none 0)) (List.toArray []))) → Params → Obj) _ ?h
  case F => exact fun x _ => x
  case h =>
    delta a12 b12 s12
    exact rfl
noncomputable def o204_235 : Params → Obj := fun P => (Obj.mk (Value.type "code") none (Data.fields (List.toArray [(Value.str (Str.ofString "b64encode") 544), (Value.str (Str.ofString "b64encode") 545), (Value.str (Str.ofString "/claim/cut.py") 546), (Value.int 120 0), (Value.int 2 0), (Value.int 0 0), (Value.int 0 0), (Value.int 3 0), (Value.ref 199), (Value.bool Bool.true), (Value.int 276 0), (Value.ref 200), Value.none, (Value.ref 201), (Value.ref 202), (Value.ref 203), (Value.int 550 0), (Value.int 120 0), (Value.str (Str.ofString "/claim/cut.py") 551)])) (List.toArray []))
noncomputable def o205_236 : Params → Obj := by
  refine' (?F : (x : Params → Obj) → x = (fun P => (Obj.mk (Value.type "function") none (Data.func (FuncData.mk (Str.ofString "b64encode") (Str.ofString "b64encode") a12 (FuncBody.stmts b12) s12 3 [] (Value.ref 198) Value.none Value.none (Value.str (Str.ofString "cpy313.base64") 542) none (Value.ref 204) Value.none 0)) (List.toArray []))) → Params → Obj) _ ?h
  case F => exact fun x _ => x
  case h =>
    delta a12 b12 s12
    exact rfl
noncomputable def o208_239 : Params → Obj := fun P => (Obj.mk (Value.type "tuple") none (Data.seq (List.toArray [(Value.str (Str.ofString "s") 561)]) 0) (List.toArray []))
noncomputable def o210_241 : Params → Obj := by
  refine' (?F : (x : Params → Obj) → x = (fun P => (Obj.mk Value.none none (Data.func (FuncData.mk (Str.ofString "urlsafe_b64encode") (Str.ofString "urlsafe_b64encode") a14 (FuncBody.stmts b14) s14 0 [] Value.none Value.none Value.none Value.none none Value.none Value.none 0)) (List.toArray []))) → Params → Obj) _ ?h
  case F => exact fun x _ => x
  case h =>
    delta a14 b14 s14
    exact rfl
noncomputable def o211_242 : Params → Obj := fun P => (Obj.mk (Value.type "code") none (Data.fields (List.toArray [(Value.str (Str.ofString "urlsafe_b64encode") 558), (Value.str (Str.ofString "urlsafe_b64encode") 559), (Value.str (Str.ofString "/claim/cut.py") 560), (Value.int 127 0), (Value.int 1 0), (Value.int 0 0), (Value.int 0 0), (Value.int 3 0), (Value.ref 206), (Value.bool Bool.true), (Value.int 276 0), (Value.ref 207), Value.none, (Value.ref 208), (Value.ref 209), (Value.ref 210), (Value.int 562 0), (Value.int 127 0), (Value.str (Str.ofString "/claim/cut.py") 563)])) (List.toArray []))
noncomputable def o212_243 : Params → Obj := by
  refine' (?F : (x : Params → Obj) → x = (fun P => (Obj.mk (Value.type "function") none (Data.func (FuncData.mk (Str.ofString "urlsafe_b64encode") (Str.ofString "urlsafe_b64encode") a14 (FuncBody.stmts b14) s14 3 [] Value.none Value.none Value.none (Value.str (Str.ofString "cpy313.base64") 542) none (Value.ref 211) Value.none 0)) (List.toArray []))) → Params → Obj) _ ?h
  case F => exact fun x _ => x
  case h =>
    delta a14 b14 s14
    exact rfl
noncomputable def o215_246 : Params → Obj := fun P => (Obj.mk (Value.type "tuple") none (Data.seq (List.toArray [(Value.str (Str.ofString "x") 570), (Value.str (Str.ofString "what") 571), (Value.str (Str.ofString "kind") 572)]) 0) (List.toArray []))
noncomputable def o217_248 : Params → Obj := by
  refine' (?F : (x : Params → Obj) → x = (fun P => (Obj.mk Value.none none (Data.func (FuncData.mk (Str.ofString "_plain_name") (Str.ofString "_plain_name") a16 (FuncBody.stmts b16) s16 0 [] Value.none Value.none Value.none Value.none none Value.none Value.none 0)) (List.toArray []))) → Params → Obj) _ ?h
  case F => exact fun x _ => x
  case h =>
    delta a16 b16 s16
    exact rfl
noncomputable def o218_249 : Params → Obj := fun P => (Obj.mk (Value.type "code") none (Data.fields (List.toArray [(Value.str (Str.ofString "_plain_name") 567), (Value.str (Str.ofString "_plain_name") 568), (Value.str (Str.ofString "/claim/cut.py") 569), (Value.int 130 0), (Value.int 2 0), (Value.int 0 0), (Value.int 0 0), (Value.int 3 0), (Value.ref 213), (Value.bool Bool.true), (Value.int 276 0), (Value.ref 214), Value.none, (Value.ref 215), (Value.ref 216), (Value.ref 217), (Value.int 573 0), (Value.int 130 0), (Value.str (Str.ofString "/claim/cut.py") 574)])) (List.toArray []))
noncomputable def o219_250 : Params → Obj := by
  refine' (?F : (x : Params → Obj) → x = (fun P => (Obj.mk (Value.type "function") none (Data.func (FuncData.mk (Str.ofString "_plain_name") (Str.ofString "_plain_name") a16 (FuncBody.stmts b16) s16 3 [] Value.none Value.none Value.none (Value.str (Str.ofString "os") 565) none (Value.ref 218) Value.none 0)) (List.toArray []))) → Params → Obj) _ ?h
  case F => exact fun x _ => x
  case h =>
    delta a16 b16 s16
    exact rfl
noncomputable def o220_251 : Params → Obj := fun P => (Obj.mk (Value.type "tuple") none (Data.seq (List.toArray [(Value.type "type")]) 0) (List.toArray []))
noncomputable def o222_253 : Params → Obj := fun P => (Obj.mk (Value.type "dict") none (Data.dict (List.toArray [(DictEntry.mk (PyData.keyHash P (Str.ofString "__module__")) (Value.str (Str.ofString "__module__") 585) (Value.str (Str.ofString "abc") 576)), (DictEntry.mk (PyData.keyHash P (Str.ofString "__qualname__")) (Value.str (Str.ofString "__qualname__") 587) (Value.str (Str.ofString "ABCMeta") 586)), (DictEntry.mk (PyData.keyHash P (Str.ofString "__firstlineno__")) (Value.str (Str.ofString "__firstlineno__") 589) (Value.int 136 588)), (DictEntry.mk (PyData.keyHash P (Str.ofString "register")) (Value.str (Str.ofString "register") 597) (Value.ref 233)), (DictEntry.mk (PyData.keyHash P (Str.ofString "__static_attributes__")) (Value.str (Str.ofString "__static_attributes__") 598) (Value.ref 234))]) 5) (List.toArray []))
noncomputable def o224_255 : Params → Obj := fun P => (Obj.mk Value.none none (Data.fields (List.toArray [(Value.int 138 0), (Value.int 4 0), (Value.ref 232)])) (List.toArray []))
noncomputable def o225_256 : Params → Obj := fun P => (Obj.mk (Value.type "code") none (Data.fields (List.toArray [(Value.str (Str.ofString "ABCMeta") 580), (Value.str (Str.ofString "ABCMeta") 581), (Value.str (Str.ofString "/claim/cut.py") 582), (Value.int 136 0), (Value.int 0 0), (Value.int 0 0), (Value.int 0 0), (Value.int 0 0), (Value.ref 223), (Value.bool Bool.false), (Value.int 276 0), (Value.ref 224), Value.none, Value.none, Value.none, Value.none, (Value.int 583 0), (Value.int 136 0), (Value.str (Str.ofString "/claim/cut.py") 584)])) (List.toArray []))
noncomputable def o226_257 : Params → Obj := fun P => (Obj.mk (Value.type "frame") none Data.plain (List.toArray [(some (Value.ref 225)), (some (Value.ref 3)), (some (Value.ref 222)), none, (some (Value.str (Str.ofString "abc") 576)), none, (some (Value.ref 0))]))
noncomputable def o229_260 : Params → Obj := fun P => (Obj.mk (Value.type "tuple") none (Data.seq (List.toArray [(Value.str (Str.ofString "cls") 593), (Value.str (Str.ofString "subclass") 594)]) 0) (List.toArray []))
noncomputable def o231_262 : Params → Obj := by
  refine' (?F : (x : Params → Obj) → x = (fun P => (Obj.mk Value.none none (Data.func (FuncData.mk (Str.ofString "register") (Str.ofString "ABCMeta.register") a18_0 (FuncBody.stmts b18_0) s18_0 0 [] Value.none Value.none Value.none Value.none none Value.none Value.none 0)) (List.toArray []))) → Params → Obj) _ ?h
  case F => exact fun x _ => x
  case h =>
    delta a18_0 b18_0 s18_0
    exact rfl
noncomputable def o232_263 : Params → Obj := fun P => (Obj.mk (Value.type "code") none (Data.fields (List.toArray [(Value.str (Str.ofString "register") 590), (Value.str (Str.ofString "ABCMeta.register") 591), (Value.str (Str.ofString "/claim/cut.py") 592), (Value.int 138 0), (Value.int 2 0), (Value.int 0 0), (Value.int 0 0), (Value.int 3 0), (Value.ref 227), (Value.bool Bool.true), (Value.int 276 0), (Value.ref 228), Value.none, (Value.ref 229), (Value.ref 230), (Value.ref 231), (Value.int 595 0), (Value.int 138 0), (Value.str (Str.ofString "/claim/cut.py") 596)])) (List.toArray []))
noncomputable def o233_264 : Params → Obj := by
  refine' (?F : (x : Params → Obj) → x = (fun P => (Obj.mk (Value.type "function") none (Data.func (FuncData.mk (Str.ofString "register") (Str.ofString "ABCMeta.register") a18_0 (FuncBody.stmts b18_0) s18_0 3 [] Value.none Value.none Value.none (Value.str (Str.ofString "abc") 576) none (Value.ref 232) Value.none 0)) (List.toArray []))) → Params → Obj) _ ?h
  case F => exact fun x _ => x
  case h =>
    delta a18_0 b18_0 s18_0
    exact rfl
noncomputable def o235_266 : Params → Obj := fun P => (Obj.mk (Value.type "dict") none (Data.dict (List.toArray [(DictEntry.mk (PyData.keyHash P (Str.ofString "__module__")) (Value.str (Str.ofString "__module__") 585) (Value.str (Str.ofString "abc") 576)), (DictEntry.mk (PyData.keyHash P (Str.ofString "__firstlineno__")) (Value.str (Str.ofString "__firstlineno__") 589) (Value.int 136 588)), (DictEntry.mk (PyData.keyHash P (Str.ofString "register")) (Value.str (Str.ofString "register") 597) (Value.ref 233)), (DictEntry.mk (PyData.keyHash P (Str.ofString "__static_attributes__")) (Value.str (Str.ofString "__static_attributes__") 598) (Value.ref 234)), (DictEntry.mk (PyData.keyHash P (Str.ofString "__doc__")) (Value.str (Str.ofString "__doc__") 599) Value.none)]) 2) (List.toArray []))
noncomputable def o236_267 : Params → Obj := fun P => (Obj.mk (Value.type "type") none (Data.cls (ClassData.mk (Str.ofString "ABCMeta") [(Value.type "type")] [(Value.ref 236), (Value.type "type"), (Value.type "object")] 235 (Str.ofString "ABCMeta") Bool.true [] [] Bool.false none Bool.false)) (List.toArray [(some (Value.ref 220)), none, (some (Value.str (Str.ofString "ABCMeta") 578)), (some (Value.str (Str.ofString "ABCMeta") 586)), (some (Value.builtin "type.__new__")), (some (Value.bool Bool.true))]))
noncomputable def o237_268 : Params → Obj := fun P => (Obj.mk (Value.type "super") none (Data.fields (List.toArray [(Value.ref 236), (Value.ref 236), (Value.ref 236)])) (List.toArray []))
noncomputable def o238_269 : Params → Obj := fun P => (Obj.mk (Value.type "builtin_function_or_method") none (Data.fields (List.toArray [(Value.builtin "object.__init_subclass__"), (Value.ref 236)])) (List.toArray []))
noncomputable def o3_270 : Params → Obj := fun P => (Obj.mk (Value.type "dict") none (Data.dict (List.toArray ((DictEntry.mk (PyData.keyHash P (Str.ofString "__name__")) (Value.str (Str.ofString "__name__") 165) (Value.str (Str.ofString "collections.abc") 602)) :: (DictEntry.mk (PyData.keyHash P (Str.ofString "__doc__")) (Value.str (Str.ofString "__doc__") 166) Value.none) :: (DictEntry.mk (PyData.keyHash P (Str.ofString "__package__")) (Value.str (Str.ofString "__package__") 167) Value.none) :: (DictEntry.mk (PyData.keyHash P (Str.ofString "__loader__")) (Value.str (Str.ofString "__loader__") 168) (Value.builtin "__main__.__loader__#opaque")) :: (DictEntry.mk (PyData.keyHash P (Str.ofString "__spec__")) (Value.str (Str.ofString "__spec__") 169) Value.none) :: (DictEntry.mk (PyData.keyHash P (Str.ofString "__annotations__")) (Value.str (Str.ofString "__annotations__") 170) (Value.ref 6)) :: (DictEntry.mk (PyData.keyHash P (Str.ofString "__builtins__")) (Value.str (Str.ofString "__builtins__") 171) (Value.ref 4)) :: (DictEntry.mk (PyData.keyHash P (Str.ofString "__file__")) (Value.str (Str.ofString "__file__") 173) (Value.str (Str.ofString "/claim/cut.py") 172)) :: (DictEntry.mk (PyData.keyHash P (Str.ofString "__cached__")) (Value.str (Str.ofString "__cached__") 174) Value.none) :: (DictEntry.mk (PyData.keyHash P (Str.ofString "_sre")) (Value.str (Str.ofString "_sre") 275) (Value.ref 12)) :: (DictEntry.mk (PyData.keyHash P (Str.ofString "_wall")) (Value.str (Str.ofString "_wall") 288) (Value.ref 38)) :: (DictEntry.mk (PyData.keyHash P (Str.ofString "_name_disallowed_re")) (Value.str (Str.ofString "_name_disallowed_re") 316) (Value.ref 43)) :: (DictEntry.mk (PyData.keyHash P (Str.ofString "_value_disallowed_re")) (Value.str (Str.ofString "_value_disallowed_re") 350) (Value.ref 48)) :: (DictEntry.mk (PyData.keyHash P (Str.ofString "Headers")) (Value.str (Str.ofString "Headers") 507) (Value.ref 171)) :: (DictEntry.mk (PyData.keyHash P (Str.ofString "_buffer")) (Value.str (Str.ofString "_buffer") 517) (Value.ref 182)) :: (DictEntry.mk (PyData.keyHash P (Str.ofString "_truth")) (Value.str (Str.ofString "_truth") 525) (Value.ref 189)) :: (DictEntry.mk (PyData.keyHash P (Str.ofString "_B64")) (Value.str (Str.ofString "_B64") 527) (Value.bytes (List.toArray (65 :: 66 :: 67 :: 68 :: 69 :: 70 :: 71 :: 72 :: 73 :: 74 :: 75 :: 76 :: 77 :: 78 :: 79 :: 80 :: 81 :: 82 :: 83 :: 84 :: 85 :: 86 :: 87 :: 88 :: 89 :: 90 :: 97 :: 98 :: 99 :: 100 :: 101 :: 102 :: 103 :: 104 :: 105 :: 106 :: 107 :: 108 :: 109 :: 110 :: 111 :: 112 :: 113 :: 114 :: 115 :: 116 :: 117 :: 118 :: 119 :: 120 :: 121 :: 122 :: 48 :: 49 :: 50 :: 51 :: 52 :: 53 :: 54 :: 55 :: 56 :: 57 :: 43 :: 47 :: [])) 526)) :: (DictEntry.mk (PyData.keyHash P (Str.ofString "b2a_base64")) (Value.str (Str.ofString "b2a_base64") 541) (Value.ref 197)) :: (DictEntry.mk (PyData.keyHash P (Str.ofString "b64encode")) (Value.str (Str.ofString "b64encode") 552) (Value.ref 205)) :: (DictEntry.mk (PyData.keyHash P (Str.ofString "_urlsafe_encode_translation")) (Value.str (Str.ofString "_urlsafe_encode_translation") 557) (Value.bytes (List.toArray (0 :: 1 :: 2 :: 3 :: 4 :: 5 :: 6 :: 7 :: 8 :: 9 :: 10 :: 11 :: 12 :: 13 :: 14 :: 15 :: 16 :: 17 :: 18 :: 19 :: 20 :: 21 :: 22 :: 23 :: 24 :: 25 :: 26 :: 27 :: 28 :: 29 :: 30 :: 31 :: 32 :: 33 :: 34 :: 35 :: 36 :: 37 :: 38 :: 39 :: 40 :: 41 :: 42 :: 45 :: 44 :: 45 :: 46 :: 95 :: 48 :: 49 :: 50 :: 51 :: 52 :: 53 :: 54 :: 55 :: 56 :: 57 :: 58 :: 59 :: 60 :: 61 :: 62 :: 63 :: 64 :: 65 :: 66 :: 67 :: 68 :: 69 :: 70 :: 71 :: 72 :: 73 :: 74 :: 75 :: 76 :: 77 :: 78 :: 79 :: 80 :: 81 :: 82 :: 83 :: 84 :: 85 :: 86 :: 87 :: 88 :: 89 :: 90 :: 91 :: 92 :: 93 :: 94 :: 95 :: 96 :: 97 :: 98 :: 99 :: 100 :: 101 :: 102 :: 103 :: 104 :: 105 :: 106 :: 107 :: 108 :: 109 :: 110 :: 111 :: 112 :: 113 :: 114 :: 115 :: 116 :: 117 :: 118 :: 119 :: 120 :: 121 :: 122 :: 123 :: 124 :: 125 :: 126 :: 127 :: 128 :: 129 :: 130 :: 131 :: 132 :: 133 :: 134 :: 135 :: 136 :: 137 :: 138 :: 139 :: 140 :: 141 :: 142 :: 143 :: 144 :: 145 :: 146 :: 147 :: 148 :: 149 :: 150 :: 151 :: 152 :: 153 :: 154 :: 155 :: 156 :: 157 :: 158 :: 159 :: 160 :: 161 :: 162 :: 163 :: 164 :: 165 :: 166 :: 167 :: 168 :: 169 :: 170 :: 171 :: 172 :: 173 :: 174 :: 175 :: 176 :: 177 :: 178 :: 179 :: 180 :: 181 :: 182 :: 183 :: 184 :: 185 :: 186 :: 187 :: 188 :: 189 :: 190 :: 191 :: 192 :: 193 :: 194 :: 195 :: 196 :: 197 :: 198 :: 199 :: 200 :: 201 :: 202 :: 203 :: 204 :: 205 :: 206 :: 207 :: 208 :: 209 :: 210 :: 211 :: 212 :: 213 :: 214 :: 215 :: 216 :: 217 :: 218 :: 219 :: 220 :: 221 :: 222 :: 223 :: 224 :: 225 :: 226 :: 227 :: 228 :: 229 :: 230 :: 231 :: 232 :: 233 :: 234 :: 235 :: 236 :: 237 :: 238 :: 239 :: 240 :: 241 :: 242 :: 243 :: 244 :: 245 :: 246 :: 247 :: 248 :: 249 :: 250 :: 251 :: 252 :: 253 :: 254 :: 255 :: [])) 556)) :: (DictEntry.mk (PyData.keyHash P (Str.ofString "urlsafe_b64encode")) (Value.str (Str.ofString "urlsafe_b64encode") 564) (Value.ref 212)) :: (DictEntry.mk (PyData.keyHash P (Str.ofString "_plain_name")) (Value.str (Str.ofString "_plain_name") 575) (Value.ref 219)) :: (DictEntry.mk (PyData.keyHash P (Str.ofString "ABCMeta")) (Value.str (Str.ofString "ABCMeta") 601) (Value.ref 236)) :: (DictEntry.mk (PyData.keyHash P (Str.ofString "_ABCLike")) (Value.str (Str.ofString "_ABCLike") 644) (Value.ref 269)) :: [])) 24) (List.toArray []))
noncomputable def o29_271 : Params → Obj := fun P => (Obj.mk Value.none none (Data.fields (List.toArray ((Value.int 2 0) :: (Value.int 0 0) :: (Value.ref 37) :: (Value.int 8 0) :: (Value.int 0 0) :: (Value.ref 54) :: (Value.int 84 0) :: (Value.int 0 0) :: (Value.ref 181) :: (Value.int 91 0) :: (Value.int 0 0) :: (Value.ref 188) :: (Value.int 97 0) :: (Value.int 0 0) :: (Value.ref 196) :: (Value.int 120 0) :: (Value.int 0 0) :: (Value.ref 204) :: (Value.int 127 0) :: (Value.int 0 0) :: (Value.ref 211) :: (Value.int 130 0) :: (Value.int 0 0) :: (Value.ref 218) :: (Value.int 136 0) :: (Value.int 0 0) :: (Value.ref 225) :: (Value.int 141 0) :: (Value.int 0 0) :: (Value.ref 244) :: []))) (List.toArray []))
noncomputable def o236_272 : Params → Obj := fun P => (Obj.mk (Value.type "type") none (Data.cls (ClassData.mk (Str.ofString "ABCMeta") [(Value.type "type")] [(Value.ref 236), (Value.type "type"), (Value.type "object")] 235 (Str.ofString "ABCMeta") Bool.true [] [(Value.ref 269)] Bool.false none Bool.false)) (List.toArray [(some (Value.ref 220)), none, (some (Value.str (Str.ofString "ABCMeta") 578)), (some (Value.str (Str.ofString "ABCMeta") 586)), (some (Value.builtin "type.__new__")), (some (Value.bool Bool.true))]))
noncomputable def o239_273 : Params → Obj := fun P => (Obj.mk (Value.type "tuple") none (Data.seq (List.toArray [(Value.ref 236)]) 0) (List.toArray []))
noncomputable def o241_275 : Params → Obj := fun P => (Obj.mk (Value.type "dict") none (Data.dict (List.toArray [(DictEntry.mk (PyData.keyHash P (Str.ofString "__module__")) (Value.str (Str.ofString "__module__") 611) (Value.str (Str.ofString "collections.abc") 602)), (DictEntry.mk (PyData.keyHash P (Str.ofString "__qualname__")) (Value.str (Str.ofString "__qualname__") 613) (Value.str (Str.ofString "_ABCLike") 612)), (DictEntry.mk (PyData.keyHash P (Str.ofString "__firstlineno__")) (Value.str (Str.ofString "__firstlineno__") 615) (Value.int 141 614)), (DictEntry.mk (PyData.keyHash P (Str.ofString "__instancecheck__")) (Value.str (Str.ofString "__instancecheck__") 624) (Value.ref 252)), (DictEntry.mk (PyData.keyHash P (Str.ofString "__subclasscheck__")) (Value.str (Str.ofString "__subclasscheck__") 632) (Value.ref 259)), (DictEntry.mk (PyData.keyHash P (Str.ofString "register")) (Value.str (Str.ofString "register") 640) (Value.ref 266)), (DictEntry.mk (PyData.keyHash P (Str.ofString "__static_attributes__")) (Value.str (Str.ofString "__static_attributes__") 641) (Value.ref 267))]) 7) (List.toArray []))
noncomputable def o243_277 : Params → Obj := fun P => (Obj.mk Value.none none (Data.fields (List.toArray [(Value.int 143 0), (Value.int 4 0), (Value.ref 251), (Value.int 149 0), (Value.int 4 0), (Value.ref 258), (Value.int 154 0), (Value.int 4 0), (Value.ref 265)])) (List.toArray []))
noncomputable def o244_278 : Params → Obj := fun P => (Obj.mk (Value.type "code") none (Data.fields (List.toArray [(Value.str (Str.ofString "_ABCLike") 606), (Value.str (Str.ofString "_ABCLike") 607), (Value.str (Str.ofString "/claim/cut.py") 608), (Value.int 141 0), (Value.int 0 0), (Value.int 0 0), (Value.int 0 0), (Value.int 0 0), (Value.ref 242), (Value.bool Bool.false), (Value.int 276 0), (Value.ref 243), Value.none, Value.none, Value.none, Value.none, (Value.int 609 0), (Value.int 141 0), (Value.str (Str.ofString "/claim/cut.py") 610)])) (List.toArray []))
noncomputable def o245_279 : Params → Obj := fun P => (Obj.mk (Value.type "frame") none Data.plain (List.toArray [(some (Value.ref 244)), (some (Value.ref 3)), (some (Value.ref 241)), none, (some (Value.str (Str.ofString "collections.abc") 602)), none, (some (Value.ref 0))]))
noncomputable def o248_282 : Params → Obj := fun P => (Obj.mk (Value.type "tuple") none (Data.seq (List.toArray [(Value.str (Str.ofString "cls") 619), (Value.str (Str.ofString "\x69nstance") 620), (Value.str (Str.ofString "C") 621)]) 0) (List.toArray []))
noncomputable def o250_284 : Params → Obj := by
  refine' (?F : (x : Params → Obj) → x = (fun P => (Obj.mk Value.none none (Data.func (FuncData.mk (Str.ofString "__instancecheck__") (Str.ofString "_ABCLike.__instancecheck__") a20_0 (FuncBody.stmts b20_0) s20_0 0 [] Value.none Value.none Value.none Value.none none Value.none Value.none 0)) (List.toArray []))) → Params → Obj) _ ?h
  case F => exact fun x _ => x
  case h =>
    delta a20_0 b20_0 s20_0
    exact rfl
noncomputable def o251_285 : Params → Obj := fun P => (Obj.mk (Value.type "code") none (Data.fields (List.toArray [(Value.str (Str.ofString "__instancecheck__") 616), (Value.str (Str.ofString "_ABCLike.__instancecheck__") 617), (Value.str (Str.ofString "/claim/cut.py") 618), (Value.int 143 0), (Value.int 2 0), (Value.int 0 0), (Value.int 0 0), (Value.int 3 0), (Value.ref 246), (Value.bool Bool.true), (Value.int 276 0), (Value.ref 247), Value.none, (Value.ref 248), (Value.ref 249), (Value.ref 250), (Value.int 622 0), (Value.int 143 0), (Value.str (Str.ofString "/claim/cut.py") 623)])) (List.toArray []))
noncomputable def o252_286 : Params → Obj := by
  refine' (?F : (x : Params → Obj) → x = (fun P => (Obj.mk (Value.type "function") none (Data.func (FuncData.mk (Str.ofString "__instancecheck__") (Str.ofString "_ABCLike.__instancecheck__") a20_0 (FuncBody.stmts b20_0) s20_0 3 [] Value.none Value.none Value.none (Value.str (Str.ofString "collections.abc") 602) none (Value.ref 251) Value.none 0)) (List.toArray []))) → Params → Obj) _ ?h
  case F => exact fun x _ => x
  case h =>
    delta a20_0 b20_0 s20_0
    exact rfl
noncomputable def o255_289 : Params → Obj := fun P => (Obj.mk (Value.type "tuple") none (Data.seq (List.toArray [(Value.str (Str.ofString "cls") 628), (Value.str (Str.ofString "C") 629)]) 0) (List.toArray []))
noncomputable def o257_291 : Params → Obj := by
  refine' (?F : (x : Params → Obj) → x = (fun P => (Obj.mk Value.none none (Data.func (FuncData.mk (Str.ofString "__subclasscheck__") (Str.ofString "_ABCLike.__subclasscheck__") a20_1 (FuncBody.stmts b20_1) s20_1 0 [] Value.none Value.none Value.none Value.none none Value.none Value.none 0)) (List.toArray []))) → Params → Obj) _ ?h
  case F => exact fun x _ => x
  case h =>
    delta a20_1 b20_1 s20_1
    exact rfl
noncomputable def o258_292 : Params → Obj := fun P => (Obj.mk (Value.type "code") none (Data.fields (List.toArray [(Value.str (Str.ofString "__subclasscheck__") 625), (Value.str (Str.ofString "_ABCLike.__subclasscheck__") 626), (Value.str (Str.ofString "/claim/cut.py") 627), (Value.int 149 0), (Value.int 2 0), (Value.int 0 0), (Value.int 0 0), (Value.int 3 0), (Value.ref 253), (Value.bool Bool.true), (Value.int 276 0), (Value.ref 254), Value.none, (Value.ref 255), (Value.ref 256), (Value.ref 257), (Value.int 630 0), (Value.int 149 0), (Value.str (Str.ofString "/claim/cut.py") 631)])) (List.toArray []))
noncomputable def o259_293 : Params → Obj := by
  refine' (?F : (x : Params → Obj) → x = (fun P => (Obj.mk (Value.type "function") none (Data.func (FuncData.mk (Str.ofString "__subclasscheck__") (Str.ofString "_ABCLike.__subclasscheck__") a20_1 (FuncBody.stmts b20_1) s20_1 3 [] Value.none Value.none Value.none (Value.str (Str.ofString "collections.abc") 602) none (Value.ref 258) Value.none 0)) (List.toArray []))) → Params → Obj) _ ?h
  case F => exact fun x _ => x
  case h =>
    delta a20_1 b20_1 s20_1
    exact rfl
noncomputable def o262_296 : Params → Obj := fun P => (Obj.mk (Value.type "tuple") none (Data.seq (List.toArray [(Value.str (Str.ofString "cls") 636), (Value.str (Str.ofString "subclass") 637)]) 0) (List.toArray []))
noncomputable def o264_298 : Params → Obj := by
  refine' (?F : (x : Params → Obj) → x = (fun P => (Obj.mk Value.none none (Data.func (FuncData.mk (Str.ofString "register") (Str.ofString "_ABCLike.register") a20_2 (FuncBody.stmts b20_2) s20_2 0 [] Value.none Value.none Value.none Value.none none Value.none Value.none 0)) (List.toArray []))) → Params → Obj) _ ?h
  case F => exact fun x _ => x
  case h =>
    delta a20_2 b20_2 s20_2
    exact rfl
noncomputable def o265_299 : Params → Obj := fun P => (Obj.mk (Value.type "code") none (Data.fields (List.toArray [(Value.str (Str.ofString "register") 633), (Value.str (Str.ofString "_ABCLike.register") 634), (Value.str (Str.ofString "/claim/cut.py") 635), (Value.int 154 0), (Value.int 2 0), (Value.int 0 0), (Value.int 0 0), (Value.int 3 0), (Value.ref 260), (Value.bool Bool.true), (Value.int 276 0), (Value.ref 261), Value.none, (Value.ref 262), (Value.ref 263), (Value.ref 264), (Value.int 638 0), (Value.int 154 0), (Value.str (Str.ofString "/claim/cut.py") 639)])) (List.toArray []))
noncomputable def o266_300 : Params → Obj := by
  refine' (?F : (x : Params → Obj) → x = (fun P => (Obj.mk (Value.type "function") none (Data.func (FuncData.mk (Str.ofString "register") (Str.ofString "_ABCLike.register") a20_2 (FuncBody.stmts b20_2) s20_2 3 [] Value.none Value.none Value.none (Value.str (Str.ofString "collections.abc") 602) none (Value.ref 265) Value.none 0)) (List.toArray []))) → Params → Obj) _ ?h
  case F => exact fun x _ => x
  case h =>
    delta a20_2 b20_2 s20_2
    exact rfl
noncomputable def o268_302 : Params → Obj := fun P => (Obj.mk (Value.type "dict") none (Data.dict (List.toArray [(DictEntry.mk (PyData.keyHash P (Str.ofString "__module__")) (Value.str (Str.ofString "__module__") 611) (Value.str (Str.ofString "collections.abc") 602)), (DictEntry.mk (PyData.keyHash P (Str.ofString "__firstlineno__")) (Value.str (Str.ofString "__firstlineno__") 615) (Value.int 141 614)), (DictEntry.mk (PyData.keyHash P (Str.ofString "__instancecheck__")) (Value.str (Str.ofString "__instancecheck__") 624) (Value.ref 252)), (DictEntry.mk (PyData.keyHash P (Str.ofString "__subclasscheck__")) (Value.str (Str.ofString "__subclasscheck__") 632) (Value.ref 259)), (DictEntry.mk (PyData.keyHash P (Str.ofString "register")) (Value.str (Str.ofString "register") 640) (Value.ref 266)), (DictEntry.mk (PyData.keyHash P (Str.ofString "__static_attributes__")) (Value.str (Str.ofString "__static_attributes__") 641) (Value.ref 267)), (DictEntry.mk (PyData.keyHash P (Str.ofString "__doc__")) (Value.str (Str.ofString "__doc__") 642) Value.none)]) 2) (List.toArray []))
noncomputable def o269_303 : Params → Obj := fun P => (Obj.mk (Value.type "type") none (Data.cls (ClassData.mk (Str.ofString "_ABCLike") [(Value.ref 236)] [(Value.ref 269), (Value.ref 236), (Value.type "type"), (Value.type "object")] 268 (Str.ofString "_ABCLike") Bool.true [] [] Bool.false none Bool.false)) (List.toArray [(some (Value.ref 239)), none, (some (Value.str (Str.ofString "_ABCLike") 604)), (some (Value.str (Str.ofString "_ABCLike") 612)), (some (Value.builtin "type.__new__")), (some (Value.bool Bool.true))]))
noncomputable def o270_304 : Params → Obj := fun P => (Obj.mk (Value.type "super") none (Data.fields (List.toArray [(Value.ref 269), (Value.ref 269), (Value.ref 269)])) (List.toArray []))
noncomputable def o271_305 : Params → Obj := fun P => (Obj.mk (Value.type "builtin_function_or_method") none (Data.fields (List.toArray [(Value.builtin "object.__init_subclass__"), (Value.ref 269)])) (List.toArray []))
noncomputable def o3_306 : Params → Obj := fun P => (Obj.mk (Value.type "dict") none (Data.dict (List.toArray ((DictEntry.mk (PyData.keyHash P (Str.ofString "__name__")) (Value.str (Str.ofString "__name__") 165) (Value.str (Str.ofString "law_rt0088_01") 708)) :: (DictEntry.mk (PyData.keyHash P (Str.ofString "__doc__")) (Value.str (Str.ofString "__doc__") 166) Value.none) :: (DictEntry.mk (PyData.keyHash P (Str.ofString "__package__")) (Value.str (Str.ofString "__package__") 167) Value.none) :: (DictEntry.mk (PyData.keyHash P (Str.ofString "__loader__")) (Value.str (Str.ofString "__loader__") 168) (Value.builtin "__main__.__loader__#opaque")) :: (DictEntry.mk (PyData.keyHash P (Str.ofString "__spec__")) (Value.str (Str.ofString "__spec__") 169) Value.none) :: (DictEntry.mk (PyData.keyHash P (Str.ofString "__annotations__")) (Value.str (Str.ofString "__annotations__") 170) (Value.ref 6)) :: (DictEntry.mk (PyData.keyHash P (Str.ofString "__builtins__")) (Value.str (Str.ofString "__builtins__") 171) (Value.ref 4)) :: (DictEntry.mk (PyData.keyHash P (Str.ofString "__file__")) (Value.str (Str.ofString "__file__") 173) (Value.str (Str.ofString "/claim/cut.py") 172)) :: (DictEntry.mk (PyData.keyHash P (Str.ofString "__cached__")) (Value.str (Str.ofString "__cached__") 174) Value.none) :: (DictEntry.mk (PyData.keyHash P (Str.ofString "_sre")) (Value.str (Str.ofString "_sre") 275) (Value.ref 12)) :: (DictEntry.mk (PyData.keyHash P (Str.ofString "_wall")) (Value.str (Str.ofString "_wall") 288) (Value.ref 38)) :: (DictEntry.mk (PyData.keyHash P (Str.ofString "_name_disallowed_re")) (Value.str (Str.ofString "_name_disallowed_re") 316) (Value.ref 43)) :: (DictEntry.mk (PyData.keyHash P (Str.ofString "_value_disallowed_re")) (Value.str (Str.ofString "_value_disallowed_re") 350) (Value.ref 48)) :: (DictEntry.mk (PyData.keyHash P (Str.ofString "Headers")) (Value.str (Str.ofString "Headers") 507) (Value.ref 171)) :: (DictEntry.mk (PyData.keyHash P (Str.ofString "_buffer")) (Value.str (Str.ofString "_buffer") 517) (Value.ref 182)) :: (DictEntry.mk (PyData.keyHash P (Str.ofString "_truth")) (Value.str (Str.ofString "_truth") 525) (Value.ref 189)) :: (DictEntry.mk (PyData.keyHash P (Str.ofString "_B64")) (Value.str (Str.ofString "_B64") 527) (Value.bytes (List.toArray (65 :: 66 :: 67 :: 68 :: 69 :: 70 :: 71 :: 72 :: 73 :: 74 :: 75 :: 76 :: 77 :: 78 :: 79 :: 80 :: 81 :: 82 :: 83 :: 84 :: 85 :: 86 :: 87 :: 88 :: 89 :: 90 :: 97 :: 98 :: 99 :: 100 :: 101 :: 102 :: 103 :: 104 :: 105 :: 106 :: 107 :: 108 :: 109 :: 110 :: 111 :: 112 :: 113 :: 114 :: 115 :: 116 :: 117 :: 118 :: 119 :: 120 :: 121 :: 122 :: 48 :: 49 :: 50 :: 51 :: 52 :: 53 :: 54 :: 55 :: 56 :: 57 :: 43 :: 47 :: [])) 526)) :: (DictEntry.mk (PyData.keyHash P (Str.ofString "b2a_base64")) (Value.str (Str.ofString "b2a_base64") 541) (Value.ref 197)) :: (DictEntry.mk (PyData.keyHash P (Str.ofString "b64encode")) (Value.str (Str.ofString "b64encode") 552) (Value.ref 205)) :: (DictEntry.mk (PyData.keyHash P (Str.ofString "_urlsafe_encode_translation")) (Value.str (Str.ofString "_urlsafe_encode_translation") 557) (Value.bytes (List.toArray (0 :: 1 :: 2 :: 3 :: 4 :: 5 :: 6 :: 7 :: 8 :: 9 :: 10 :: 11 :: 12 :: 13 :: 14 :: 15 :: 16 :: 17 :: 18 :: 19 :: 20 :: 21 :: 22 :: 23 :: 24 :: 25 :: 26 :: 27 :: 28 :: 29 :: 30 :: 31 :: 32 :: 33 :: 34 :: 35 :: 36 :: 37 :: 38 :: 39 :: 40 :: 41 :: 42 :: 45 :: 44 :: 45 :: 46 :: 95 :: 48 :: 49 :: 50 :: 51 :: 52 :: 53 :: 54 :: 55 :: 56 :: 57 :: 58 :: 59 :: 60 :: 61 :: 62 :: 63 :: 64 :: 65 :: 66 :: 67 :: 68 :: 69 :: 70 :: 71 :: 72 :: 73 :: 74 :: 75 :: 76 :: 77 :: 78 :: 79 :: 80 :: 81 :: 82 :: 83 :: 84 :: 85 :: 86 :: 87 :: 88 :: 89 :: 90 :: 91 :: 92 :: 93 :: 94 :: 95 :: 96 :: 97 :: 98 :: 99 :: 100 :: 101 :: 102 :: 103 :: 104 :: 105 :: 106 :: 107 :: 108 :: 109 :: 110 :: 111 :: 112 :: 113 :: 114 :: 115 :: 116 :: 117 :: 118 :: 119 :: 120 :: 121 :: 122 :: 123 :: 124 :: 125 :: 126 :: 127 :: 128 :: 129 :: 130 :: 131 :: 132 :: 133 :: 134 :: 135 :: 136 :: 137 :: 138 :: 139 :: 140 :: 141 :: 142 :: 143 :: 144 :: 145 :: 146 :: 147 :: 148 :: 149 :: 150 :: 151 :: 152 :: 153 :: 154 :: 155 :: 156 :: 157 :: 158 :: 159 :: 160 :: 161 :: 162 :: 163 :: 164 :: 165 :: 166 :: 167 :: 168 :: 169 :: 170 :: 171 :: 172 :: 173 :: 174 :: 175 :: 176 :: 177 :: 178 :: 179 :: 180 :: 181 :: 182 :: 183 :: 184 :: 185 :: 186 :: 187 :: 188 :: 189 :: 190 :: 191 :: 192 :: 193 :: 194 :: 195 :: 196 :: 197 :: 198 :: 199 :: 200 :: 201 :: 202 :: 203 :: 204 :: 205 :: 206 :: 207 :: 208 :: 209 :: 210 :: 211 :: 212 :: 213 :: 214 :: 215 :: 216 :: 217 :: 218 :: 219 :: 220 :: 221 :: 222 :: 223 :: 224 :: 225 :: 226 :: 227 :: 228 :: 229 :: 230 :: 231 :: 232 :: 233 :: 234 :: 235 :: 236 :: 237 :: 238 :: 239 :: 240 :: 241 :: 242 :: 243 :: 244 :: 245 :: 246 :: 247 :: 248 :: 249 :: 250 :: 251 :: 252 :: 253 :: 254 :: 255 :: [])) 556)) :: (DictEntry.mk (PyData.keyHash P (Str.ofString "urlsafe_b64encode")) (Value.str (Str.ofString "urlsafe_b64encode") 564) (Value.ref 212)) :: (DictEntry.mk (PyData.keyHash P (Str.ofString "_plain_name")) (Value.str (Str.ofString "_plain_name") 575) (Value.ref 219)) :: (DictEntry.mk (PyData.keyHash P (Str.ofString "ABCMeta")) (Value.str (Str.ofString "ABCMeta") 601) (Value.ref 236)) :: (DictEntry.mk (PyData.keyHash P (Str.ofString "_ABCLike")) (Value.str (Str.ofString "_ABCLike") 644) (Value.ref 269)) :: (DictEntry.mk (PyData.keyHash P (Str.ofString "_abc_plain_meta")) (Value.str (Str.ofString "_abc_plain_meta") 651) (Value.ref 278)) :: (DictEntry.mk (PyData.keyHash P (Str.ofString "fspath")) (Value.str (Str.ofString "fspath") 663) (Value.ref 285)) :: (DictEntry.mk (PyData.keyHash P (Str.ofString "_check_arg_types")) (Value.str (Str.ofString "_check_arg_types") 676) (Value.ref 292)) :: (DictEntry.mk (PyData.keyHash P (Str.ofString "_get_sep")) (Value.str (Str.ofString "_get_sep") 685) (Value.ref 299)) :: (DictEntry.mk (PyData.keyHash P (Str.ofString "join")) (Value.str (Str.ofString "join") 696) (Value.ref 306)) :: (DictEntry.mk (PyData.keyHash P (Str.ofString "split")) (Value.str (Str.ofString "split") 707) (Value.ref 313)) :: (DictEntry.mk (PyData.keyHash P (Str.ofString "_law_written")) (Value.str (Str.ofString "_law_written") 715) (Value.ref 318)) :: (DictEntry.mk (PyData.keyHash P (Str.ofString "_law_step")) (Value.str (Str.ofString "_law_step") 724) (Value.ref 325)) :: (DictEntry.mk (PyData.keyHash P (Str.ofString "_law_tree")) (Value.str (Str.ofString "_law_tree") 738) (Value.ref 332)) :: (DictEntry.mk (PyData.keyHash P (Str.ofString "_law_left")) (Value.str (Str.ofString "_law_left") 744) (Value.ref 337)) :: (DictEntry.mk (PyData.keyHash P (Str.ofString "_law_fronts")) (Value.str (Str.ofString "_law_fronts") 755) (Value.ref 344)) :: (DictEntry.mk (PyData.keyHash P (Str.ofString "_law_ends")) (Value.str (Str.ofString "_law_ends") 761) (Value.ref 349)) :: (DictEntry.mk (PyData.keyHash P (Str.ofString "_law_run")) (Value.str (Str.ofString "_law_run") 767) (Value.ref 354)) :: (DictEntry.mk (PyData.keyHash P (Str.ofString "law")) (Value.str (Str.ofString "law") 773) (Value.ref 359)) :: [])) 38) (List.toArray []))
noncomputable def o29_307 : Params → Obj := fun P => (Obj.mk Value.none none (Data.fields (List.toArray ((Value.int 2 0) :: (Value.int 0 0) :: (Value.ref 37) :: (Value.int 8 0) :: (Value.int 0 0) :: (Value.ref 54) :: (Value.int 84 0) :: (Value.int 0 0) :: (Value.ref 181) :: (Value.int 91 0) :: (Value.int 0 0) :: (Value.ref 188) :: (Value.int 97 0) :: (Value.int 0 0) :: (Value.ref 196) :: (Value.int 120 0) :: (Value.int 0 0) :: (Value.ref 204) :: (Value.int 127 0) :: (Value.int 0 0) :: (Value.ref 211) :: (Value.int 130 0) :: (Value.int 0 0) :: (Value.ref 218) :: (Value.int 136 0) :: (Value.int 0 0) :: (Value.ref 225) :: (Value.int 141 0) :: (Value.int 0 0) :: (Value.ref 244) :: (Value.int 156 0) :: (Value.int 0 0) :: (Value.ref 277) :: (Value.int 160 0) :: (Value.int 0 0) :: (Value.ref 284) :: (Value.int 177 0) :: (Value.int 0 0) :: (Value.ref 291) :: (Value.int 189 0) :: (Value.int 0 0) :: (Value.ref 298) :: (Value.int 194 0) :: (Value.int 0 0) :: (Value.ref 305) :: (Value.int 211 0) :: (Value.int 0 0) :: (Value.ref 312) :: (Value.int 220 0) :: (Value.int 0 0) :: (Value.ref 317) :: (Value.int 227 0) :: (Value.int 0 0) :: (Value.ref 324) :: (Value.int 231 0) :: (Value.int 0 0) :: (Value.ref 331) :: (Value.int 242 0) :: (Value.int 0 0) :: (Value.ref 336) :: (Value.int 248 0) :: (Value.int 0 0) :: (Value.ref 343) :: (Value.int 256 0) :: (Value.int 0 0) :: (Value.ref 348) :: (Value.int 259 0) :: (Value.int 0 0) :: (Value.ref 353) :: (Value.int 280 0) :: (Value.int 0 0) :: (Value.ref 358) :: []))) (List.toArray []))
noncomputable def o274_310 : Params → Obj := fun P => (Obj.mk (Value.type "tuple") none (Data.seq (List.toArray [(Value.str (Str.ofString "C") 648)]) 0) (List.toArray []))
noncomputable def o276_312 : Params → Obj := by
  refine' (?F : (x : Params → Obj) → x = (fun P => (Obj.mk Value.none none (Data.func (FuncData.mk (Str.ofString "_abc_plain_meta") (Str.ofString "_abc_plain_meta") a21 (FuncBody.stmts b21) s21 0 [] Value.none Value.none Value.none Value.none none Value.none Value.none 0)) (List.toArray []))) → Params → Obj) _ ?h
  case F => exact fun x _ => x
  case h =>
    delta a21 b21 s21
    exact rfl
noncomputable def o277_313 : Params → Obj := fun P => (Obj.mk (Value.type "code") none (Data.fields (List.toArray [(Value.str (Str.ofString "_abc_plain_meta") 645), (Value.str (Str.ofString "_abc_plain_meta") 646), (Value.str (Str.ofString "/claim/cut.py") 647), (Value.int 156 0), (Value.int 1 0), (Value.int 0 0), (Value.int 0 0), (Value.int 3 0), (Value.ref 272), (Value.bool Bool.true), (Value.int 276 0), (Value.ref 273), Value.none, (Value.ref 274), (Value.ref 275), (Value.ref 276), (Value.int 649 0), (Value.int 156 0), (Value.str (Str.ofString "/claim/cut.py") 650)])) (List.toArray []))
noncomputable def o278_314 : Params → Obj := by
  refine' (?F : (x : Params → Obj) → x = (fun P => (Obj.mk (Value.type "function") none (Data.func (FuncData.mk (Str.ofString "_abc_plain_meta") (Str.ofString "_abc_plain_meta") a21 (FuncBody.stmts b21) s21 3 [] Value.none Value.none Value.none (Value.str (Str.ofString "collections.abc") 602) none (Value.ref 277) Value.none 0)) (List.toArray []))) → Params → Obj) _ ?h
  case F => exact fun x _ => x
  case h =>
    delta a21 b21 s21
    exact rfl
noncomputable def o281_317 : Params → Obj := fun P => (Obj.mk (Value.type "tuple") none (Data.seq (List.toArray [(Value.str (Str.ofString "path") 657), (Value.str (Str.ofString "kind") 658), (Value.str (Str.ofString "hook") 659), (Value.str (Str.ofString "given") 660)]) 0) (List.toArray []))
noncomputable def o283_319 : Params → Obj := by
  refine' (?F : (x : Params → Obj) → x = (fun P => (Obj.mk Value.none none (Data.func (FuncData.mk (Str.ofString "fspath") (Str.ofString "fspath") a23 (FuncBody.stmts b23) s23 0 [] Value.none Value.none Value.none Value.none none Value.none Value.none 0)) (List.toArray []))) → Params → Obj) _ ?h
  case F => exact fun x _ => x
  case h =>
    delta a23 b23 s23
    exact rfl
noncomputable def o284_320 : Params → Obj := fun P => (Obj.mk (Value.type "code") none (Data.fields (List.toArray [(Value.str (Str.ofString "fspath") 654), (Value.str (Str.ofString "fspath") 655), (Value.str (Str.ofString "/claim/cut.py") 656), (Value.int 160 0), (Value.int 1 0), (Value.int 0 0), (Value.int 0 0), (Value.int 3 0), (Value.ref 279), (Value.bool Bool.true), (Value.int 276 0), (Value.ref 280), Value.none, (Value.ref 281), (Value.ref 282), (Value.ref 283), (Value.int 661 0), (Value.int 160 0), (Value.str (Str.ofString "/claim/cut.py") 662)])) (List.toArray []))
noncomputable def o285_321 : Params → Obj := by
  refine' (?F : (x : Params → Obj) → x = (fun P => (Obj.mk (Value.type "function") none (Data.func (FuncData.mk (Str.ofString "fspath") (Str.ofString "fspath") a23 (FuncBody.stmts b23) s23 3 [] Value.none Value.none Value.none (Value.str (Str.ofString "os") 652) none (Value.ref 284) Value.none 0)) (List.toArray []))) → Params → Obj) _ ?h
  case F => exact fun x _ => x
  case h =>
    delta a23 b23 s23
    exact rfl
noncomputable def o288_324 : Params → Obj := fun P => (Obj.mk (Value.type "tuple") none (Data.seq (List.toArray [(Value.str (Str.ofString "funcname") 669), (Value.str (Str.ofString "args") 670), (Value.str (Str.ofString "hasstr") 671), (Value.str (Str.ofString "hasbytes") 672), (Value.str (Str.ofString "s") 673)]) 0) (List.toArray []))
noncomputable def o290_326 : Params → Obj := by
  refine' (?F : (x : Params → Obj) → x = (fun P => (Obj.mk Value.none none (Data.func (FuncData.mk (Str.ofString "_check_arg_types") (Str.ofString "_check_arg_types") a25 (FuncBody.stmts b25) s25 0 [] Value.none Value.none Value.none Value.none none Value.none Value.none 0)) (List.toArray []))) → Params → Obj) _ ?h
  case F => exact fun x _ => x
  case h =>
    delta a25 b25 s25
    exact rfl
noncomputable def o291_327 : Params → Obj := fun P => (Obj.mk (Value.type "code") none (Data.fields (List.toArray [(Value.str (Str.ofString "_check_arg_types") 666), (Value.str (Str.ofString "_check_arg_types") 667), (Value.str (Str.ofString "/claim/cut.py") 668), (Value.int 177 0), (Value.int 1 0), (Value.int 0 0), (Value.int 0 0), (Value.int 7 0), (Value.ref 286), (Value.bool Bool.true), (Value.int 276 0), (Value.ref 287), Value.none, (Value.ref 288), (Value.ref 289), (Value.ref 290), (Value.int 674 0), (Value.int 177 0), (Value.str (Str.ofString "/claim/cut.py") 675)])) (List.toArray []))
noncomputable def o292_328 : Params → Obj := by
  refine' (?F : (x : Params → Obj) → x = (fun P => (Obj.mk (Value.type "function") none (Data.func (FuncData.mk (Str.ofString "_check_arg_types") (Str.ofString "_check_arg_types") a25 (FuncBody.stmts b25) s25 3 [] Value.none Value.none Value.none (Value.str (Str.ofString "cpy313.genericpath") 664) none (Value.ref 291) Value.none 0)) (List.toArray []))) → Params → Obj) _ ?h
  case F => exact fun x _ => x
  case h =>
    delta a25 b25 s25
    exact rfl
noncomputable def o295_331 : Params → Obj := fun P => (Obj.mk (Value.type "tuple") none (Data.seq (List.toArray [(Value.str (Str.ofString "path") 682)]) 0) (List.toArray []))
noncomputable def o297_333 : Params → Obj := by
  refine' (?F : (x : Params → Obj) → x = (fun P => (Obj.mk Value.none none (Data.func (FuncData.mk (Str.ofString "_get_sep") (Str.ofString "_get_sep") a27 (FuncBody.stmts b27) s27 0 [] Value.none Value.none Value.none Value.none none Value.none Value.none 0)) (List.toArray []))) → Params → Obj) _ ?h
  case F => exact fun x _ => x
  case h =>
    delta a27 b27 s27
    exact rfl
noncomputable def o298_334 : Params → Obj := fun P => (Obj.mk (Value.type "code") none (Data.fields (List.toArray [(Value.str (Str.ofString "_get_sep") 679), (Value.str (Str.ofString "_get_sep") 680), (Value.str (Str.ofString "/claim/cut.py") 681), (Value.int 189 0), (Value.int 1 0), (Value.int 0 0), (Value.int 0 0), (Value.int 3 0), (Value.ref 293), (Value.bool Bool.true), (Value.int 276 0), (Value.ref 294), Value.none, (Value.ref 295), (Value.ref 296), (Value.ref 297), (Value.int 683 0), (Value.int 189 0), (Value.str (Str.ofString "/claim/cut.py") 684)])) (List.toArray []))
noncomputable def o299_335 : Params → Obj := by
  refine' (?F : (x : Params → Obj) → x = (fun P => (Obj.mk (Value.type "function") none (Data.func (FuncData.mk (Str.ofString "_get_sep") (Str.ofString "_get_sep") a27 (FuncBody.stmts b27) s27 3 [] Value.none Value.none Value.none (Value.str (Str.ofString "cpy313.posixpath") 677) none (Value.ref 298) Value.none 0)) (List.toArray []))) → Params → Obj) _ ?h
  case F => exact fun x _ => x
  case h =>
    delta a27 b27 s27
    exact rfl
noncomputable def o302_338 : Params → Obj := fun P => (Obj.mk (Value.type "tuple") none (Data.seq (List.toArray [(Value.str (Str.ofString "a") 689), (Value.str (Str.ofString "p") 690), (Value.str (Str.ofString "sep") 691), (Value.str (Str.ofString "path") 692), (Value.str (Str.ofString "b") 693)]) 0) (List.toArray []))
noncomputable def o304_340 : Params → Obj := by
  refine' (?F : (x : Params → Obj) → x = (fun P => (Obj.mk Value.none none (Data.func (FuncData.mk (Str.ofString "join") (Str.ofString "join") a28 (FuncBody.stmts b28) s28 0 [] Value.none Value.none Value.none Value.none none Value.none Value.none 0)) (List.toArray []))) → Params → Obj) _ ?h
  case F => exact fun x _ => x
  case h =>
    delta a28 b28 s28
    exact rfl
noncomputable def o305_341 : Params → Obj := fun P => (Obj.mk (Value.type "code") none (Data.fields (List.toArray [(Value.str (Str.ofString "join") 686), (Value.str (Str.ofString "join") 687), (Value.str (Str.ofString "/claim/cut.py") 688), (Value.int 194 0), (Value.int 1 0), (Value.int 0 0), (Value.int 0 0), (Value.int 7 0), (Value.ref 300), (Value.bool Bool.true), (Value.int 276 0), (Value.ref 301), Value.none, (Value.ref 302), (Value.ref 303), (Value.ref 304), (Value.int 694 0), (Value.int 194 0), (Value.str (Str.ofString "/claim/cut.py") 695)])) (List.toArray []))
noncomputable def o306_342 : Params → Obj := by
  refine' (?F : (x : Params → Obj) → x = (fun P => (Obj.mk (Value.type "function") none (Data.func (FuncData.mk (Str.ofString "join") (Str.ofString "join") a28 (FuncBody.stmts b28) s28 3 [] Value.none Value.none Value.none (Value.str (Str.ofString "cpy313.posixpath") 677) none (Value.ref 305) Value.none 0)) (List.toArray []))) → Params → Obj) _ ?h
  case F => exact fun x _ => x
  case h =>
    delta a28 b28 s28
    exact rfl
noncomputable def o309_345 : Params → Obj := fun P => (Obj.mk (Value.type "tuple") none (Data.seq (List.toArray [(Value.str (Str.ofString "p") 700), (Value.str (Str.ofString "sep") 701), (Value.str (Str.ofString "i") 702), (Value.str (Str.ofString "head") 703), (Value.str (Str.ofString "tail") 704)]) 0) (List.toArray []))
noncomputable def o311_347 : Params → Obj := by
  refine' (?F : (x : Params → Obj) → x = (fun P => (Obj.mk Value.none none (Data.func (FuncData.mk (Str.ofString "split") (Str.ofString "split") a29 (FuncBody.stmts b29) s29 0 [] Value.none Value.none Value.none Value.none none Value.none Value.none 0)) (List.toArray []))) → Params → Obj) _ ?h
  case F => exact fun x _ => x
  case h =>
    delta a29 b29 s29
    exact rfl
noncomputable def o312_348 : Params → Obj := fun P => (Obj.mk (Value.type "code") none (Data.fields (List.toArray [(Value.str (Str.ofString "split") 697), (Value.str (Str.ofString "split") 698), (Value.str (Str.ofString "/claim/cut.py") 699), (Value.int 211 0), (Value.int 1 0), (Value.int 0 0), (Value.int 0 0), (Value.int 3 0), (Value.ref 307), (Value.bool Bool.true), (Value.int 276 0), (Value.ref 308), Value.none, (Value.ref 309), (Value.ref 310), (Value.ref 311), (Value.int 705 0), (Value.int 211 0), (Value.str (Str.ofString "/claim/cut.py") 706)])) (List.toArray []))
noncomputable def o313_349 : Params → Obj := by
  refine' (?F : (x : Params → Obj) → x = (fun P => (Obj.mk (Value.type "function") none (Data.func (FuncData.mk (Str.ofString "split") (Str.ofString "split") a29 (FuncBody.stmts b29) s29 3 [] Value.none Value.none Value.none (Value.str (Str.ofString "cpy313.posixpath") 677) none (Value.ref 312) Value.none 0)) (List.toArray []))) → Params → Obj) _ ?h
  case F => exact fun x _ => x
  case h =>
    delta a29 b29 s29
    exact rfl
noncomputable def o316_352 : Params → Obj := by
  refine' (?F : (x : Params → Obj) → x = (fun P => (Obj.mk Value.none none (Data.func (FuncData.mk (Str.ofString "_law_written") (Str.ofString "_law_written") a31 (FuncBody.stmts b31) s31 0 [] Value.none Value.none Value.none Value.none none Value.none Value.none 0)) (List.toArray []))) → Params → Obj) _ ?h
  case F => exact fun x _ => x
  case h =>
    delta a31 b31 s31
    exact rfl
noncomputable def o317_353 : Params → Obj := fun P => (Obj.mk (Value.type "code") none (Data.fields (List.toArray [(Value.str (Str.ofString "_law_written") 710), (Value.str (Str.ofString "_law_written") 711), (Value.str (Str.ofString "/claim/cut.py") 712), (Value.int 220 0), (Value.int 1 0), (Value.int 0 0), (Value.int 0 0), (Value.int 3 0), (Value.ref 314), (Value.bool Bool.true), (Value.int 276 0), (Value.ref 315), Value.none, Value.none, Value.none, (Value.ref 316), (Value.int 713 0), (Value.int 220 0), (Value.str (Str.ofString "/claim/cut.py") 714)])) (List.toArray []))
noncomputable def o318_354 : Params → Obj := by
  refine' (?F : (x : Params → Obj) → x = (fun P => (Obj.mk (Value.type "function") none (Data.func (FuncData.mk (Str.ofString "_law_written") (Str.ofString "_law_written") a31 (FuncBody.stmts b31) s31 3 [] Value.none Value.none Value.none (Value.str (Str.ofString "law_rt0088_01") 708) none (Value.ref 317) Value.none 0)) (List.toArray []))) → Params → Obj) _ ?h
  case F => exact fun x _ => x
  case h =>
    delta a31 b31 s31
    exact rfl
noncomputable def o321_357 : Params → Obj := fun P => (Obj.mk (Value.type "tuple") none (Data.seq (List.toArray [(Value.str (Str.ofString "table") 719), (Value.str (Str.ofString "node") 720), (Value.str (Str.ofString "sign") 721)]) 0) (List.toArray []))
noncomputable def o323_359 : Params → Obj := by
  refine' (?F : (x : Params → Obj) → x = (fun P => (Obj.mk Value.none none (Data.func (FuncData.mk (Str.ofString "_law_step") (Str.ofString "_law_step") a32 (FuncBody.stmts b32) s32 0 [] Value.none Value.none Value.none Value.none none Value.none Value.none 0)) (List.toArray []))) → Params → Obj) _ ?h
  case F => exact fun x _ => x
  case h =>
    delta a32 b32 s32
    exact rfl
noncomputable def o324_360 : Params → Obj := fun P => (Obj.mk (Value.type "code") none (Data.fields (List.toArray [(Value.str (Str.ofString "_law_step") 716), (Value.str (Str.ofString "_law_step") 717), (Value.str (Str.ofString "/claim/cut.py") 718), (Value.int 227 0), (Value.int 3 0), (Value.int 0 0), (Value.int 0 0), (Value.int 3 0), (Value.ref 319), (Value.bool Bool.true), (Value.int 276 0), (Value.ref 320), Value.none, (Value.ref 321), (Value.ref 322), (Value.ref 323), (Value.int 722 0), (Value.int 227 0), (Value.str (Str.ofString "/claim/cut.py") 723)])) (List.toArray []))
noncomputable def o325_361 : Params → Obj := by
  refine' (?F : (x : Params → Obj) → x = (fun P => (Obj.mk (Value.type "function") none (Data.func (FuncData.mk (Str.ofString "_law_step") (Str.ofString "_law_step") a32 (FuncBody.stmts b32) s32 3 [] Value.none Value.none Value.none (Value.str (Str.ofString "law_rt0088_01") 708) none (Value.ref 324) Value.none 0)) (List.toArray []))) → Params → Obj) _ ?h
  case F => exact fun x _ => x
  case h =>
    delta a32 b32 s32
    exact rfl
noncomputable def o328_364 : Params → Obj := fun P => (Obj.mk (Value.type "tuple") none (Data.seq (List.toArray [(Value.str (Str.ofString "words") 728), (Value.str (Str.ofString "table") 729), (Value.str (Str.ofString "told") 730), (Value.str (Str.ofString "word") 731), (Value.str (Str.ofString "node") 732), (Value.str (Str.ofString "size") 733), (Value.str (Str.ofString "above") 734), (Value.str (Str.ofString "sign") 735)]) 0) (List.toArray []))
noncomputable def o330_366 : Params → Obj := by
  refine' (?F : (x : Params → Obj) → x = (fun P => (Obj.mk Value.none none (Data.func (FuncData.mk (Str.ofString "_law_tree") (Str.ofString "_law_tree") a33 (FuncBody.stmts b33) s33 0 [] Value.none Value.none Value.none Value.none none Value.none Value.none 0)) (List.toArray []))) → Params → Obj) _ ?h
  case F => exact fun x _ => x
  case h =>
    delta a33 b33 s33
    exact rfl
noncomputable def o331_367 : Params → Obj := fun P => (Obj.mk (Value.type "code") none (Data.fields (List.toArray [(Value.str (Str.ofString "_law_tree") 725), (Value.str (Str.ofString "_law_tree") 726), (Value.str (Str.ofString "/claim/cut.py") 727), (Value.int 231 0), (Value.int 1 0), (Value.int 0 0), (Value.int 0 0), (Value.int 3 0), (Value.ref 326), (Value.bool Bool.true), (Value.int 276 0), (Value.ref 327), Value.none, (Value.ref 328), (Value.ref 329), (Value.ref 330), (Value.int 736 0), (Value.int 231 0), (Value.str (Str.ofString "/claim/cut.py") 737)])) (List.toArray []))
noncomputable def o332_368 : Params → Obj := by
  refine' (?F : (x : Params → Obj) → x = (fun P => (Obj.mk (Value.type "function") none (Data.func (FuncData.mk (Str.ofString "_law_tree") (Str.ofString "_law_tree") a33 (FuncBody.stmts b33) s33 3 [] Value.none Value.none Value.none (Value.str (Str.ofString "law_rt0088_01") 708) none (Value.ref 331) Value.none 0)) (List.toArray []))) → Params → Obj) _ ?h
  case F => exact fun x _ => x
  case h =>
    delta a33 b33 s33
    exact rfl
noncomputable def o335_371 : Params → Obj := by
  refine' (?F : (x : Params → Obj) → x = (fun P => (Obj.mk Value.none none (Data.func (FuncData.mk (Str.ofString "_law_left") (Str.ofString "_law_left") a34 (FuncBody.stmts b34) s34 0 [] Value.none Value.none Value.none Value.none none Value.none Value.none 0)) (List.toArray []))) → Params → Obj) _ ?h
  case F => exact fun x _ => x
  case h =>
    delta a34 b34 s34
    exact rfl
noncomputable def o336_372 : Params → Obj := fun P => (Obj.mk (Value.type "code") none (Data.fields (List.toArray [(Value.str (Str.ofString "_law_left") 739), (Value.str (Str.ofString "_law_left") 740), (Value.str (Str.ofString "/claim/cut.py") 741), (Value.int 242 0), (Value.int 1 0), (Value.int 0 0), (Value.int 0 0), (Value.int 3 0), (Value.ref 333), (Value.bool Bool.true), (Value.int 276 0), (Value.ref 334), Value.none, Value.none, Value.none, (Value.ref 335), (Value.int 742 0), (Value.int 242 0), (Value.str (Str.ofString "/claim/cut.py") 743)])) (List.toArray []))
noncomputable def o337_373 : Params → Obj := by
  refine' (?F : (x : Params → Obj) → x = (fun P => (Obj.mk (Value.type "function") none (Data.func (FuncData.mk (Str.ofString "_law_left") (Str.ofString "_law_left") a34 (FuncBody.stmts b34) s34 3 [] Value.none Value.none Value.none (Value.str (Str.ofString "law_rt0088_01") 708) none (Value.ref 336) Value.none 0)) (List.toArray []))) → Params → Obj) _ ?h
  case F => exact fun x _ => x
  case h =>
    delta a34 b34 s34
    exact rfl
noncomputable def o340_376 : Params → Obj := fun P => (Obj.mk (Value.type "tuple") none (Data.seq (List.toArray [(Value.str (Str.ofString "words") 748), (Value.str (Str.ofString "fronts") 749), (Value.str (Str.ofString "small") 750), (Value.str (Str.ofString "size") 751), (Value.str (Str.ofString "word") 752)]) 0) (List.toArray []))
noncomputable def o342_378 : Params → Obj := by
  refine' (?F : (x : Params → Obj) → x = (fun P => (Obj.mk Value.none none (Data.func (FuncData.mk (Str.ofString "_law_fronts") (Str.ofString "_law_fronts") a35 (FuncBody.stmts b35) s35 0 [] Value.none Value.none Value.none Value.none none Value.none Value.none 0)) (List.toArray []))) → Params → Obj) _ ?h
  case F => exact fun x _ => x
  case h =>
    delta a35 b35 s35
    exact rfl
noncomputable def o343_379 : Params → Obj := fun P => (Obj.mk (Value.type "code") none (Data.fields (List.toArray [(Value.str (Str.ofString "_law_fronts") 745), (Value.str (Str.ofString "_law_fronts") 746), (Value.str (Str.ofString "/claim/cut.py") 747), (Value.int 248 0), (Value.int 1 0), (Value.int 0 0), (Value.int 0 0), (Value.int 3 0), (Value.ref 338), (Value.bool Bool.true), (Value.int 276 0), (Value.ref 339), Value.none, (Value.ref 340), (Value.ref 341), (Value.ref 342), (Value.int 753 0), (Value.int 248 0), (Value.str (Str.ofString "/claim/cut.py") 754)])) (List.toArray []))
noncomputable def o344_380 : Params → Obj := by
  refine' (?F : (x : Params → Obj) → x = (fun P => (Obj.mk (Value.type "function") none (Data.func (FuncData.mk (Str.ofString "_law_fronts") (Str.ofString "_law_fronts") a35 (FuncBody.stmts b35) s35 3 [] Value.none Value.none Value.none (Value.str (Str.ofString "law_rt0088_01") 708) none (Value.ref 343) Value.none 0)) (List.toArray []))) → Params → Obj) _ ?h
  case F => exact fun x _ => x
  case h =>
    delta a35 b35 s35
    exact rfl
noncomputable def o347_383 : Params → Obj := by
  refine' (?F : (x : Params → Obj) → x = (fun P => (Obj.mk Value.none none (Data.func (FuncData.mk (Str.ofString "_law_ends") (Str.ofString "_law_ends") a36 (FuncBody.stmts b36) s36 0 [] Value.none Value.none Value.none Value.none none Value.none Value.none 0)) (List.toArray []))) → Params → Obj) _ ?h
  case F => exact fun x _ => x
  case h =>
    delta a36 b36 s36
    exact rfl
noncomputable def o348_384 : Params → Obj := fun P => (Obj.mk (Value.type "code") none (Data.fields (List.toArray [(Value.str (Str.ofString "_law_ends") 756), (Value.str (Str.ofString "_law_ends") 757), (Value.str (Str.ofString "/claim/cut.py") 758), (Value.int 256 0), (Value.int 2 0), (Value.int 0 0), (Value.int 0 0), (Value.int 3 0), (Value.ref 345), (Value.bool Bool.true), (Value.int 276 0), (Value.ref 346), Value.none, Value.none, Value.none, (Value.ref 347), (Value.int 759 0), (Value.int 256 0), (Value.str (Str.ofString "/claim/cut.py") 760)])) (List.toArray []))
noncomputable def o349_385 : Params → Obj := by
  refine' (?F : (x : Params → Obj) → x = (fun P => (Obj.mk (Value.type "function") none (Data.func (FuncData.mk (Str.ofString "_law_ends") (Str.ofString "_law_ends") a36 (FuncBody.stmts b36) s36 3 [] Value.none Value.none Value.none (Value.str (Str.ofString "law_rt0088_01") 708) none (Value.ref 348) Value.none 0)) (List.toArray []))) → Params → Obj) _ ?h
  case F => exact fun x _ => x
  case h =>
    delta a36 b36 s36
    exact rfl
noncomputable def o352_388 : Params → Obj := by
  refine' (?F : (x : Params → Obj) → x = (fun P => (Obj.mk Value.none none (Data.func (FuncData.mk (Str.ofString "_law_run") (Str.ofString "_law_run") a37 (FuncBody.stmts b37) s37 0 [] Value.none Value.none Value.none Value.none none Value.none Value.none 0)) (List.toArray []))) → Params → Obj) _ ?h
  case F => exact fun x _ => x
  case h =>
    delta a37 b37 s37
    exact rfl
noncomputable def o353_389 : Params → Obj := fun P => (Obj.mk (Value.type "code") none (Data.fields (List.toArray [(Value.str (Str.ofString "_law_run") 762), (Value.str (Str.ofString "_law_run") 763), (Value.str (Str.ofString "/claim/cut.py") 764), (Value.int 259 0), (Value.int 1 0), (Value.int 0 0), (Value.int 0 0), (Value.int 3 0), (Value.ref 350), (Value.bool Bool.true), (Value.int 276 0), (Value.ref 351), Value.none, Value.none, Value.none, (Value.ref 352), (Value.int 765 0), (Value.int 259 0), (Value.str (Str.ofString "/claim/cut.py") 766)])) (List.toArray []))
noncomputable def o354_390 : Params → Obj := by
  refine' (?F : (x : Params → Obj) → x = (fun P => (Obj.mk (Value.type "function") none (Data.func (FuncData.mk (Str.ofString "_law_run") (Str.ofString "_law_run") a37 (FuncBody.stmts b37) s37 3 [] Value.none Value.none Value.none (Value.str (Str.ofString "law_rt0088_01") 708) none (Value.ref 353) Value.none 0)) (List.toArray []))) → Params → Obj) _ ?h
  case F => exact fun x _ => x
  case h =>
    delta a37 b37 s37
    exact rfl
noncomputable def o357_393 : Params → Obj := by
  refine' (?F : (x : Params → Obj) → x = (fun P => (Obj.mk Value.none none (Data.func (FuncData.mk (Str.ofString "law") (Str.ofString "law") a38 (FuncBody.stmts b38) s38 0 [] Value.none Value.none Value.none Value.none none Value.none Value.none 0)) (List.toArray []))) → Params → Obj) _ ?h
  case F => exact fun x _ => x
  case h =>
    delta a38 b38 s38
    exact rfl
noncomputable def o358_394 : Params → Obj := fun P => (Obj.mk (Value.type "code") none (Data.fields (List.toArray [(Value.str (Str.ofString "law") 768), (Value.str (Str.ofString "law") 769), (Value.str (Str.ofString "/claim/cut.py") 770), (Value.int 280 0), (Value.int 1 0), (Value.int 0 0), (Value.int 0 0), (Value.int 3 0), (Value.ref 355), (Value.bool Bool.true), (Value.int 276 0), (Value.ref 356), Value.none, Value.none, Value.none, (Value.ref 357), (Value.int 771 0), (Value.int 280 0), (Value.str (Str.ofString "/claim/cut.py") 772)])) (List.toArray []))
noncomputable def o359_395 : Params → Obj := by
  refine' (?F : (x : Params → Obj) → x = (fun P => (Obj.mk (Value.type "function") none (Data.func (FuncData.mk (Str.ofString "law") (Str.ofString "law") a38 (FuncBody.stmts b38) s38 3 [] Value.none Value.none Value.none (Value.str (Str.ofString "law_rt0088_01") 708) none (Value.ref 358) Value.none 0)) (List.toArray []))) → Params → Obj) _ ?h
  case F => exact fun x _ => x
  case h =>
    delta a38 b38 s38
    exact rfl
noncomputable def T1 : Params → BT := fun P => (.node (o0_0 P) (.node (o1_1 P) (.node (o3_3 P) (.node (o7_7 P) (.node (o7_7 P) (.node (o31_56 P) .nil .nil) .nil) (.node (o23_23 P) .nil .nil)) (.node (o11_37 P) (.node (o19_19 P) .nil .nil) (.node (o27_27 P) .nil .nil))) (.node (o5_5 P) (.node (o9_9 P) (.node (o17_17 P) .nil .nil) (.node (o25_25 P) .nil .nil)) (.node (o13_13 P) (.node (o21_21 P) .nil .nil) (.node (o8_8 P) .nil .nil)))) (.node (o2_2 P) (.node (o4_4 P) (.node (o8_8 P) (.node (o16_16 P) .nil .nil) (.node (o24_24 P) .nil .nil)) (.node (o12_12 P) (.node (o20_20 P) .nil .nil) (.node (o7_7 P) .nil .nil))) (.node (o6_6 P) (.node (o10_10 P) (.node (o18_18 P) .nil .nil) (.node (o26_26 P) .nil .nil)) (.node (o14_14 P) (.node (o22_22 P) .nil .nil) (.node (o30_55 P) .nil .nil)))))
noncomputable def T5 : Params → BT := fun P => (.node (o0_0 P) (.node (o1_1 P) (.node (o3_57 P) (.node (o7_7 P) (.node (o7_7 P) (.node (o31_56 P) .nil .nil) (.node (o47_74 P) .nil .nil)) (.node (o23_23 P) (.node (o39_66 P) .nil .nil) .nil)) (.node (o11_37 P) (.node (o19_19 P) (.node (o7_7 P) .nil .nil) .nil) (.node (o27_27 P) (.node (o43_70 P) .nil .nil) .nil))) (.node (o5_5 P) (.node (o9_9 P) (.node (o17_17 P) (.node (o8_8 P) .nil .nil) .nil) (.node (o25_25 P) (.node (o41_68 P) .nil .nil) .nil)) (.node (o13_13 P) (.node (o21_21 P) (.node (o37_64 P) .nil .nil) .nil) (.node (o29_58 P) (.node (o6_6 P) .nil .nil) .nil)))) (.node (o2_2 P) (.node (o4_4 P) (.node (o8_8 P) (.node (o16_16 P) (.node (o7_7 P) .nil .nil) (.node (o48_75 P) .nil .nil)) (.node (o24_24 P) (.node (o6_6 P) .nil .nil) .nil)) (.node (o12_12 P) (.node (o20_20 P) (.node (o36_63 P) .nil .nil) .nil) (.node (o7_7 P) (.node (o44_71 P) .nil .nil) .nil))) (.node (o6_6 P) (.node (o10_10 P) (.node (o18_18 P) (.node (o34_61 P) .nil .nil) .nil) (.node (o26_26 P) (.node (o42_69 P) .nil .nil) .nil)) (.node (o14_14 P) (.node (o22_22 P) (.node (o38_65 P) .nil .nil) .nil) (.node (o30_55 P) (.node (o41_68 P) .nil .nil) .nil)))))
noncomputable def T6 : Params → BT := fun P => (.node (o0_0 P) (.node (o1_1 P) (.node (o3_76 P) (.node (o7_7 P) (.node (o7_7 P) (.node (o31_56 P) (.node (o63_92 P) (.node (o127_156 P) .nil .nil) .nil) (.node (o95_124 P) (.node (o159_188 P) .nil .nil) .nil)) (.node (o47_74 P) (.node (o8_8 P) (.node (o7_7 P) .nil .nil) .nil) (.node (o41_68 P) (.node (o175_204 P) .nil .nil) .nil))) (.node (o23_23 P) (.node (o39_66 P) (.node (o7_7 P) (.node (o135_164 P) .nil .nil) .nil) (.node (o103_132 P) (.node (o167_196 P) .nil .nil) .nil)) (.node (o55_84 P) (.node (o87_116 P) (.node (o7_7 P) .nil .nil) .nil) (.node (o7_7 P) .nil .nil)))) (.node (o11_37 P) (.node (o19_19 P) (.node (o7_7 P) (.node (o7_7 P) (.node (o131_160 P) .nil .nil) .nil) (.node (o99_128 P) (.node (o8_8 P) .nil .nil) .nil)) (.node (o51_80 P) (.node (o83_112 P) (.node (o147_176 P) .nil .nil) .nil) (.node (o7_7 P) .nil .nil))) (.node (o27_27 P) (.node (o43_70 P) (.node (o75_104 P) (.node (o7_7 P) .nil .nil) .nil) (.node (o7_7 P) (.node (o171_200 P) .nil .nil) .nil)) (.node (o59_88 P) (.node (o8_8 P) (.node (o7_7 P) .nil .nil) .nil) (.node (o123_152 P) .nil .nil))))) (.node (o5_5 P) (.node (o9_9 P) (.node (o17_17 P) (.node (o8_8 P) (.node (o8_8 P) (.node (o7_7 P) .nil .nil) .nil) (.node (o7_7 P) (.node (o161_190 P) .nil .nil) .nil)) (.node (o7_7 P) (.node (o7_7 P) (.node (o145_174 P) .nil .nil) .nil) (.node (o8_8 P) .nil .nil))) (.node (o25_25 P) (.node (o41_68 P) (.node (o73_102 P) (.node (o8_8 P) .nil .nil) .nil) (.node (o8_8 P) (.node (o169_198 P) .nil .nil) .nil)) (.node (o7_7 P) (.node (o89_118 P) (.node (o153_182 P) .nil .nil) .nil) (.node (o121_150 P) .nil .nil)))) (.node (o13_13 P) (.node (o21_21 P) (.node (o37_64 P) (.node (o69_98 P) (.node (o133_162 P) .nil .nil) .nil) (.node (o101_130 P) (.node (o7_7 P) .nil .nil) .nil)) (.node (o53_82 P) (.node (o7_7 P) (.node (o8_8 P) .nil .nil) .nil) (.node (o117_146 P) .nil .nil))) (.node (o29_77 P) (.node (o6_6 P) (.node (o77_106 P) (.node (o141_170 P) .nil .nil) .nil) (.node (o109_138 P) (.node (o173_202 P) .nil .nil) .nil)) (.node (o61_90 P) (.node (o7_7 P) (.node (o157_186 P) .nil .nil) .nil) (.node (o8_8 P) .nil .nil)))))) (.node (o2_2 P) (.node (o4_4 P) (.node (o8_8 P) (.node (o16_16 P) (.node (o7_7 P) (.node (o7_7 P) (.node (o128_157 P) .nil .nil) .nil) (.node (o96_125 P) (.node (o160_189 P) .nil .nil) .nil)) (.node (o48_75 P) (.node (o80_109 P) (.node (o8_8 P) .nil .nil) .nil) (.node (o7_7 P) .nil .nil))) (.node (o24_24 P) (.node (o6_6 P) (.node (o8_8 P) (.node (o7_7 P) .nil .nil) .nil) (.node (o7_7 P) (.node (o168_197 P) .nil .nil) .nil)) (.node (o41_68 P) (.node (o88_117 P) (.node (o152_181 P) .nil .nil) .nil) (.node (o8_8 P) .nil .nil)))) (.node (o12_12 P) (.node (o20_20 P) (.node (o36_63 P) (.node (o68_97 P) (.node (o7_7 P) .nil .nil) .nil) (.node (o7_7 P) (.node (o164_193 P) .nil .nil) .nil)) (.node (o7_7 P) (.node (o84_113 P) (.node (o7_7 P) .nil .nil) .nil) (.node (o116_145 P) .nil .nil))) (.node (o7_7 P) (.node (o44_71 P) (.node (o76_105 P) (.node (o140_169 P) .nil .nil) .nil) (.node (o108_137 P) (.node (o172_201 P) .nil .nil) .nil)) (.node (o7_7 P) (.node (o92_121 P) (.node (o8_8 P) .nil .nil) .nil) (.node (o7_7 P) .nil .nil))))) (.node (o6_6 P) (.node (o10_10 P) (.node (o18_18 P) (.node (o34_61 P) (.node (o66_95 P) (.node (o8_8 P) .nil .nil) .nil) (.node (o8_8 P) (.node (o7_7 P) .nil .nil) .nil)) (.node (o50_79 P) (.node (o82_111 P) (.node (o146_175 P) .nil .nil) .nil) (.node (o114_143 P) .nil .nil))) (.node (o26_26 P) (.node (o42_69 P) (.node (o7_7 P) (.node (o138_167 P) .nil .nil) .nil) (.node (o106_135 P) (.node (o170_199 P) .nil .nil) .nil)) (.node (o8_8 P) (.node (o7_7 P) (.node (o154_183 P) .nil .nil) .nil) (.node (o122_151 P) .nil .nil)))) (.node (o14_14 P) (.node (o22_22 P) (.node (o38_65 P) (.node (o70_99 P) (.node (o134_163 P) .nil .nil) .nil) (.node (o102_131 P) (.node (o166_195 P) .nil .nil) .nil)) (.node (o54_83 P) (.node (o8_8 P) (.node (o150_179 P) .nil .nil) .nil) (.node (o118_147 P) .nil .nil))) (.node (o30_55 P) (.node (o41_68 P) (.node (o7_7 P) (.node (o142_171 P) .nil .nil) .nil) (.node (o110_139 P) (.node (o174_203 P) .nil .nil) .nil)) (.node (o62_91 P) (.node (o94_123 P) (.node (o7_7 P) .nil .nil) .nil) (.node (o126_155 P) .nil .nil)))))))
noncomputable def T20 : Params → BT := fun P => (.node (o0_0 P) (.node (o1_1 P) (.node (o3_205 P) (.node (o7_7 P) (.node (o7_7 P) (.node (o31_56 P) (.node (o63_92 P) (.node (o127_156 P) .nil .nil) (.node (o7_7 P) .nil .nil)) (.node (o95_124 P) (.node (o159_188 P) .nil .nil) (.node (o7_7 P) .nil .nil))) (.node (o47_74 P) (.node (o8_8 P) (.node (o7_7 P) .nil .nil) (.node (o8_8 P) .nil .nil)) (.node (o41_68 P) (.node (o175_204 P) .nil .nil) .nil))) (.node (o23_23 P) (.node (o39_66 P) (.node (o7_7 P) (.node (o135_164 P) .nil .nil) (.node (o7_7 P) .nil .nil)) (.node (o103_132 P) (.node (o167_196 P) .nil .nil) (.node (o231_262 P) .nil .nil))) (.node (o55_84 P) (.node (o87_116 P) (.node (o7_7 P) .nil .nil) (.node (o215_246 P) .nil .nil)) (.node (o7_7 P) (.node (o7_7 P) .nil .nil) .nil)))) (.node (o11_37 P) (.node (o19_19 P) (.node (o7_7 P) (.node (o7_7 P) (.node (o131_160 P) .nil .nil) (.node (o195_226 P) .nil .nil)) (.node (o99_128 P) (.node (o8_8 P) .nil .nil) (.node (o7_7 P) .nil .nil))) (.node (o51_80 P) (.node (o83_112 P) (.node (o147_176 P) .nil .nil) (.node (o211_242 P) .nil .nil)) (.node (o7_7 P) (.node (o7_7 P) .nil .nil) .nil))) (.node (o27_27 P) (.node (o43_70 P) (.node (o75_104 P) (.node (o7_7 P) .nil .nil) (.node (o203_234 P) .nil .nil)) (.node (o7_7 P) (.node (o171_200 P) .nil .nil) (.node (o235_266 P) .nil .nil))) (.node (o59_88 P) (.node (o8_8 P) (.node (o7_7 P) .nil .nil) (.node (o219_250 P) .nil .nil)) (.node (o123_152 P) (.node (o187_218 P) .nil .nil) .nil))))) (.node (o5_5 P) (.node (o9_9 P) (.node (o17_17 P) (.node (o8_8 P) (.node (o8_8 P) (.node (o7_7 P) .nil .nil) (.node (o193_224 P) .nil .nil)) (.node (o7_7 P) (.node (o161_190 P) .nil .nil) (.node (o225_256 P) .nil .nil))) (.node (o7_7 P) (.node (o7_7 P) (.node (o145_174 P) .nil .nil) (.node (o7_7 P) .nil .nil)) (.node (o8_8 P) (.node (o8_8 P) .nil .nil) .nil))) (.node (o25_25 P) (.node (o41_68 P) (.node (o73_102 P) (.node (o8_8 P) .nil .nil) (.node (o201_232 P) .nil .nil)) (.node (o8_8 P) (.node (o169_198 P) .nil .nil) (.node (o233_264 P) .nil .nil))) (.node (o7_7 P) (.node (o89_118 P) (.node (o153_182 P) .nil .nil) (.node (o217_248 P) .nil .nil)) (.node (o121_150 P) (.node (o185_216 P) .nil .nil) .nil)))) (.node (o13_13 P) (.node (o21_21 P) (.node (o37_64 P) (.node (o69_98 P) (.node (o133_162 P) .nil .nil) (.node (o197_228 P) .nil .nil)) (.node (o101_130 P) (.node (o7_7 P) .nil .nil) (.node (o229_260 P) .nil .nil))) (.node (o53_82 P) (.node (o7_7 P) (.node (o8_8 P) .nil .nil) (.node (o7_7 P) .nil .nil)) (.node (o117_146 P) (.node (o181_212 P) .nil .nil) .nil))) (.node (o29_206 P) (.node (o6_6 P) (.node (o77_106 P) (.node (o141_170 P) .nil .nil) (.node (o205_236 P) .nil .nil)) (.node (o109_138 P) (.node (o173_202 P) .nil .nil) (.node (o237_268 P) .nil .nil))) (.node (o61_90 P) (.node (o7_7 P) (.node (o157_186 P) .nil .nil) (.node (o50_79 P) .nil .nil)) (.node (o8_8 P) (.node (o189_220 P) .nil .nil) .nil)))))) (.node (o2_2 P) (.node (o4_4 P) (.node (o8_8 P) (.node (o16_16 P) (.node (o7_7 P) (.node (o7_7 P) (.node (o128_157 P) .nil .nil) (.node (o8_8 P) .nil .nil)) (.node (o96_125 P) (.node (o160_189 P) .nil .nil) (.node (o224_255 P) .nil .nil))) (.node (o48_75 P) (.node (o80_109 P) (.node (o8_8 P) .nil .nil) (.node (o208_239 P) .nil .nil)) (.node (o7_7 P) (.node (o7_7 P) .nil .nil) .nil))) (.node (o24_24 P) (.node (o6_6 P) (.node (o8_8 P) (.node (o7_7 P) .nil .nil) (.node (o8_8 P) .nil .nil)) (.node (o7_7 P) (.node (o168_197 P) .nil .nil) (.node (o232_263 P) .nil .nil))) (.node (o41_68 P) (.node (o88_117 P) (.node (o152_181 P) .nil .nil) (.node (o7_7 P) .nil .nil)) (.node (o8_8 P) (.node (o8_8 P) .nil .nil) .nil)))) (.node (o12_12 P) (.node (o20_20 P) (.node (o36_63 P) (.node (o68_97 P) (.node (o7_7 P) .nil .nil) (.node (o196_227 P) .nil .nil)) (.node (o7_7 P) (.node (o164_193 P) .nil .nil) (.node (o8_8 P) .nil .nil))) (.node (o7_7 P) (.node (o84_113 P) (.node (o7_7 P) .nil .nil) (.node (o212_243 P) .nil .nil)) (.node (o116_145 P) (.node (o180_211 P) .nil .nil) .nil))) (.node (o7_7 P) (.node (o44_71 P) (.node (o76_105 P) (.node (o140_169 P) .nil .nil) (.node (o204_235 P) .nil .nil)) (.node (o108_137 P) (.node (o172_201 P) .nil .nil) (.node (o236_267 P) .nil .nil))) (.node (o7_7 P) (.node (o92_121 P) (.node (o8_8 P) .nil .nil) (.node (o220_251 P) .nil .nil)) (.node (o7_7 P) (.node (o188_219 P) .nil .nil) .nil))))) (.node (o6_6 P) (.node (o10_10 P) (.node (o18_18 P) (.node (o34_61 P) (.node (o66_95 P) (.node (o8_8 P) .nil .nil) (.node (o7_7 P) .nil .nil)) (.node (o8_8 P) (.node (o7_7 P) .nil .nil) (.node (o226_257 P) .nil .nil))) (.node (o50_79 P) (.node (o82_111 P) (.node (o146_175 P) .nil .nil) (.node (o210_241 P) .nil .nil)) (.node (o114_143 P) (.node (o178_209 P) .nil .nil) .nil))) (.node (o26_26 P) (.node (o42_69 P) (.node (o7_7 P) (.node (o138_167 P) .nil .nil) (.node (o7_7 P) .nil .nil)) (.node (o106_135 P) (.node (o170_199 P) .nil .nil) (.node (o7_7 P) .nil .nil))) (.node (o8_8 P) (.node (o7_7 P) (.node (o154_183 P) .nil .nil) (.node (o218_249 P) .nil .nil)) (.node (o122_151 P) (.node (o7_7 P) .nil .nil) .nil)))) (.node (o14_14 P) (.node (o22_22 P) (.node (o38_65 P) (.node (o70_99 P) (.node (o134_163 P) .nil .nil) (.node (o41_68 P) .nil .nil)) (.node (o102_131 P) (.node (o166_195 P) .nil .nil) (.node (o7_7 P) .nil .nil))) (.node (o54_83 P) (.node (o8_8 P) (.node (o150_179 P) .nil .nil) (.node (o8_8 P) .nil .nil)) (.node (o118_147 P) (.node (o182_213 P) .nil .nil) .nil))) (.node (o30_55 P) (.node (o41_68 P) (.node (o7_7 P) (.node (o142_171 P) .nil .nil) (.node (o7_7 P) .nil .nil)) (.node (o110_139 P) (.node (o174_203 P) .nil .nil) (.node (o238_269 P) .nil .nil))) (.node (o62_91 P) (.node (o94_123 P) (.node (o7_7 P) .nil .nil) (.node (o222_253 P) .nil .nil)) (.node (o126_155 P) (.node (o190_221 P) .nil .nil) .nil)))))))
noncomputable def T21 : Params → BT := fun P => (.node (o0_0 P) (.node (o1_1 P) (.node (o3_270 P) (.node (o7_7 P) (.node (o7_7 P) (.node (o31_56 P) (.node (o63_92 P) (.node (o127_156 P) (.node (o255_289 P) .nil .nil) .nil) (.node (o7_7 P) .nil .nil)) (.node (o95_124 P) (.node (o159_188 P) .nil .nil) (.node (o7_7 P) .nil .nil))) (.node (o47_74 P) (.node (o8_8 P) (.node (o7_7 P) (.node (o271_305 P) .nil .nil) .nil) (.node (o8_8 P) .nil .nil)) (.node (o41_68 P) (.node (o175_204 P) .nil .nil) (.node (o239_273 P) .nil .nil)))) (.node (o23_23 P) (.node (o39_66 P) (.node (o7_7 P) (.node (o135_164 P) (.node (o7_7 P) .nil .nil) .nil) (.node (o7_7 P) .nil .nil)) (.node (o103_132 P) (.node (o167_196 P) .nil .nil) (.node (o231_262 P) .nil .nil))) (.node (o55_84 P) (.node (o87_116 P) (.node (o7_7 P) .nil .nil) (.node (o215_246 P) .nil .nil)) (.node (o7_7 P) (.node (o7_7 P) .nil .nil) (.node (o8_8 P) .nil .nil))))) (.node (o11_37 P) (.node (o19_19 P) (.node (o7_7 P) (.node (o7_7 P) (.node (o131_160 P) (.node (o259_293 P) .nil .nil) .nil) (.node (o195_226 P) .nil .nil)) (.node (o99_128 P) (.node (o8_8 P) .nil .nil) (.node (o7_7 P) .nil .nil))) (.node (o51_80 P) (.node (o83_112 P) (.node (o147_176 P) .nil .nil) (.node (o211_242 P) .nil .nil)) (.node (o7_7 P) (.node (o7_7 P) .nil .nil) (.node (o243_277 P) .nil .nil)))) (.node (o27_27 P) (.node (o43_70 P) (.node (o75_104 P) (.node (o7_7 P) (.node (o7_7 P) .nil .nil) .nil) (.node (o203_234 P) .nil .nil)) (.node (o7_7 P) (.node (o171_200 P) .nil .nil) (.node (o235_266 P) .nil .nil))) (.node (o59_88 P) (.node (o8_8 P) (.node (o7_7 P) .nil .nil) (.node (o219_250 P) .nil .nil)) (.node (o123_152 P) (.node (o187_218 P) .nil .nil) (.node (o251_285 P) .nil .nil)))))) (.node (o5_5 P) (.node (o9_9 P) (.node (o17_17 P) (.node (o8_8 P) (.node (o8_8 P) (.node (o7_7 P) (.node (o257_291 P) .nil .nil) .nil) (.node (o193_224 P) .nil .nil)) (.node (o7_7 P) (.node (o161_190 P) .nil .nil) (.node (o225_256 P) .nil .nil))) (.node (o7_7 P) (.node (o7_7 P) (.node (o145_174 P) .nil .nil) (.node (o7_7 P) .nil .nil)) (.node (o8_8 P) (.node (o8_8 P) .nil .nil) (.node (o241_275 P) .nil .nil)))) (.node (o25_25 P) (.node (o41_68 P) (.node (o73_102 P) (.node (o8_8 P) (.node (o265_299 P) .nil .nil) .nil) (.node (o201_232 P) .nil .nil)) (.node (o8_8 P) (.node (o169_198 P) .nil .nil) (.node (o233_264 P) .nil .nil))) (.node (o7_7 P) (.node (o89_118 P) (.node (o153_182 P) .nil .nil) (.node (o217_248 P) .nil .nil)) (.node (o121_150 P) (.node (o185_216 P) .nil .nil) (.node (o7_7 P) .nil .nil))))) (.node (o13_13 P) (.node (o21_21 P) (.node (o37_64 P) (.node (o69_98 P) (.node (o133_162 P) (.node (o8_8 P) .nil .nil) .nil) (.node (o197_228 P) .nil .nil)) (.node (o101_130 P) (.node (o7_7 P) .nil .nil) (.node (o229_260 P) .nil .nil))) (.node (o53_82 P) (.node (o7_7 P) (.node (o8_8 P) .nil .nil) (.node (o7_7 P) .nil .nil)) (.node (o117_146 P) (.node (o181_212 P) .nil .nil) (.node (o245_279 P) .nil .nil)))) (.node (o29_271 P) (.node (o6_6 P) (.node (o77_106 P) (.node (o141_170 P) (.node (o269_303 P) .nil .nil) .nil) (.node (o205_236 P) .nil .nil)) (.node (o109_138 P) (.node (o173_202 P) .nil .nil) (.node (o237_268 P) .nil .nil))) (.node (o61_90 P) (.node (o7_7 P) (.node (o157_186 P) .nil .nil) (.node (o50_79 P) .nil .nil)) (.node (o8_8 P) (.node (o189_220 P) .nil .nil) (.node (o7_7 P) .nil .nil))))))) (.node (o2_2 P) (.node (o4_4 P) (.node (o8_8 P) (.node (o16_16 P) (.node (o7_7 P) (.node (o7_7 P) (.node (o128_157 P) (.node (o7_7 P) .nil .nil) .nil) (.node (o8_8 P) .nil .nil)) (.node (o96_125 P) (.node (o160_189 P) .nil .nil) (.node (o224_255 P) .nil .nil))) (.node (o48_75 P) (.node (o80_109 P) (.node (o8_8 P) .nil .nil) (.node (o208_239 P) .nil .nil)) (.node (o7_7 P) (.node (o7_7 P) .nil .nil) (.node (o50_79 P) .nil .nil)))) (.node (o24_24 P) (.node (o6_6 P) (.node (o8_8 P) (.node (o7_7 P) (.node (o264_298 P) .nil .nil) .nil) (.node (o8_8 P) .nil .nil)) (.node (o7_7 P) (.node (o168_197 P) .nil .nil) (.node (o232_263 P) .nil .nil))) (.node (o41_68 P) (.node (o88_117 P) (.node (o152_181 P) .nil .nil) (.node (o7_7 P) .nil .nil)) (.node (o8_8 P) (.node (o8_8 P) .nil .nil) (.node (o248_282 P) .nil .nil))))) (.node (o12_12 P) (.node (o20_20 P) (.node (o36_63 P) (.node (o68_97 P) (.node (o7_7 P) (.node (o7_7 P) .nil .nil) .nil) (.node (o196_227 P) .nil .nil)) (.node (o7_7 P) (.node (o164_193 P) .nil .nil) (.node (o8_8 P) .nil .nil))) (.node (o7_7 P) (.node (o84_113 P) (.node (o7_7 P) .nil .nil) (.node (o212_243 P) .nil .nil)) (.node (o116_145 P) (.node (o180_211 P) .nil .nil) (.node (o244_278 P) .nil .nil)))) (.node (o7_7 P) (.node (o44_71 P) (.node (o76_105 P) (.node (o140_169 P) (.node (o268_302 P) .nil .nil) .nil) (.node (o204_235 P) .nil .nil)) (.node (o108_137 P) (.node (o172_201 P) .nil .nil) (.node (o236_272 P) .nil .nil))) (.node (o7_7 P) (.node (o92_121 P) (.node (o8_8 P) .nil .nil) (.node (o220_251 P) .nil .nil)) (.node (o7_7 P) (.node (o188_219 P) .nil .nil) (.node (o252_286 P) .nil .nil)))))) (.node (o6_6 P) (.node (o10_10 P) (.node (o18_18 P) (.node (o34_61 P) (.node (o66_95 P) (.node (o8_8 P) (.node (o258_292 P) .nil .nil) .nil) (.node (o7_7 P) .nil .nil)) (.node (o8_8 P) (.node (o7_7 P) .nil .nil) (.node (o226_257 P) .nil .nil))) (.node (o50_79 P) (.node (o82_111 P) (.node (o146_175 P) .nil .nil) (.node (o210_241 P) .nil .nil)) (.node (o114_143 P) (.node (o178_209 P) .nil .nil) (.node (o7_7 P) .nil .nil)))) (.node (o26_26 P) (.node (o42_69 P) (.node (o7_7 P) (.node (o138_167 P) (.node (o266_300 P) .nil .nil) .nil) (.node (o7_7 P) .nil .nil)) (.node (o106_135 P) (.node (o170_199 P) .nil .nil) (.node (o7_7 P) .nil .nil))) (.node (o8_8 P) (.node (o7_7 P) (.node (o154_183 P) .nil .nil) (.node (o218_249 P) .nil .nil)) (.node (o122_151 P) (.node (o7_7 P) .nil .nil) (.node (o250_284 P) .nil .nil))))) (.node (o14_14 P) (.node (o22_22 P) (.node (o38_65 P) (.node (o70_99 P) (.node (o134_163 P) (.node (o262_296 P) .nil .nil) .nil) (.node (o41_68 P) .nil .nil)) (.node (o102_131 P) (.node (o166_195 P) .nil .nil) (.node (o7_7 P) .nil .nil))) (.node (o54_83 P) (.node (o8_8 P) (.node (o150_179 P) .nil .nil) (.node (o8_8 P) .nil .nil)) (.node (o118_147 P) (.node (o182_213 P) .nil .nil) (.node (o7_7 P) .nil .nil)))) (.node (o30_55 P) (.node (o41_68 P) (.node (o7_7 P) (.node (o142_171 P) (.node (o270_304 P) .nil .nil) .nil) (.node (o7_7 P) .nil .nil)) (.node (o110_139 P) (.node (o174_203 P) .nil .nil) (.node (o238_269 P) .nil .nil))) (.node (o62_91 P) (.node (o94_123 P) (.node (o7_7 P) .nil .nil) (.node (o222_253 P) .nil .nil)) (.node (o126_155 P) (.node (o190_221 P) .nil .nil) (.node (o8_8 P) .nil .nil))))))))
noncomputable def T39 : Params → BT := fun P => (.node (o0_0 P) (.node (o1_1 P) (.node (o3_306 P) (.node (o7_7 P) (.node (o7_7 P) (.node (o31_56 P) (.node (o63_92 P) (.node (o127_156 P) (.node (o255_289 P) .nil .nil) .nil) (.node (o7_7 P) (.node (o7_7 P) .nil .nil) .nil)) (.node (o95_124 P) (.node (o159_188 P) (.node (o8_8 P) .nil .nil) .nil) (.node (o7_7 P) (.node (o8_8 P) .nil .nil) .nil))) (.node (o47_74 P) (.node (o8_8 P) (.node (o7_7 P) (.node (o271_305 P) .nil .nil) .nil) (.node (o8_8 P) (.node (o335_371 P) .nil .nil) .nil)) (.node (o41_68 P) (.node (o175_204 P) (.node (o7_7 P) .nil .nil) .nil) (.node (o239_273 P) .nil .nil)))) (.node (o23_23 P) (.node (o39_66 P) (.node (o7_7 P) (.node (o135_164 P) (.node (o7_7 P) .nil .nil) .nil) (.node (o7_7 P) (.node (o8_8 P) .nil .nil) .nil)) (.node (o103_132 P) (.node (o167_196 P) (.node (o295_331 P) .nil .nil) .nil) (.node (o231_262 P) (.node (o359_395 P) .nil .nil) .nil))) (.node (o55_84 P) (.node (o87_116 P) (.node (o7_7 P) (.node (o7_7 P) .nil .nil) .nil) (.node (o215_246 P) (.node (o343_379 P) .nil .nil) .nil)) (.node (o7_7 P) (.node (o7_7 P) (.node (o311_347 P) .nil .nil) .nil) (.node (o8_8 P) .nil .nil))))) (.node (o11_37 P) (.node (o19_19 P) (.node (o7_7 P) (.node (o7_7 P) (.node (o131_160 P) (.node (o259_293 P) .nil .nil) .nil) (.node (o195_226 P) (.node (o323_359 P) .nil .nil) .nil)) (.node (o99_128 P) (.node (o8_8 P) (.node (o291_327 P) .nil .nil) .nil) (.node (o7_7 P) (.node (o7_7 P) .nil .nil) .nil))) (.node (o51_80 P) (.node (o83_112 P) (.node (o147_176 P) (.node (o7_7 P) .nil .nil) .nil) (.node (o211_242 P) (.node (o8_8 P) .nil .nil) .nil)) (.node (o7_7 P) (.node (o7_7 P) (.node (o7_7 P) .nil .nil) .nil) (.node (o243_277 P) .nil .nil)))) (.node (o27_27 P) (.node (o43_70 P) (.node (o75_104 P) (.node (o7_7 P) (.node (o7_7 P) .nil .nil) .nil) (.node (o203_234 P) (.node (o331_367 P) .nil .nil) .nil)) (.node (o7_7 P) (.node (o171_200 P) (.node (o299_335 P) .nil .nil) .nil) (.node (o235_266 P) .nil .nil))) (.node (o59_88 P) (.node (o8_8 P) (.node (o7_7 P) (.node (o283_319 P) .nil .nil) .nil) (.node (o219_250 P) (.node (o347_383 P) .nil .nil) .nil)) (.node (o123_152 P) (.node (o187_218 P) (.node (o8_8 P) .nil .nil) .nil) (.node (o251_285 P) .nil .nil)))))) (.node (o5_5 P) (.node (o9_9 P) (.node (o17_17 P) (.node (o8_8 P) (.node (o8_8 P) (.node (o7_7 P) (.node (o257_291 P) .nil .nil) .nil) (.node (o193_224 P) (.node (o321_357 P) .nil .nil) .nil)) (.node (o7_7 P) (.node (o161_190 P) (.node (o7_7 P) .nil .nil) .nil) (.node (o225_256 P) (.node (o353_389 P) .nil .nil) .nil))) (.node (o7_7 P) (.node (o7_7 P) (.node (o145_174 P) (.node (o8_8 P) .nil .nil) .nil) (.node (o7_7 P) (.node (o337_373 P) .nil .nil) .nil)) (.node (o8_8 P) (.node (o8_8 P) (.node (o305_341 P) .nil .nil) .nil) (.node (o241_275 P) .nil .nil)))) (.node (o25_25 P) (.node (o41_68 P) (.node (o73_102 P) (.node (o8_8 P) (.node (o265_299 P) .nil .nil) .nil) (.node (o201_232 P) (.node (o7_7 P) .nil .nil) .nil)) (.node (o8_8 P) (.node (o169_198 P) (.node (o297_333 P) .nil .nil) .nil) (.node (o233_264 P) .nil .nil))) (.node (o7_7 P) (.node (o89_118 P) (.node (o153_182 P) (.node (o281_317 P) .nil .nil) .nil) (.node (o217_248 P) (.node (o7_7 P) .nil .nil) .nil)) (.node (o121_150 P) (.node (o185_216 P) (.node (o313_349 P) .nil .nil) .nil) (.node (o7_7 P) .nil .nil))))) (.node (o13_13 P) (.node (o21_21 P) (.node (o37_64 P) (.node (o69_98 P) (.node (o133_162 P) (.node (o8_8 P) .nil .nil) .nil) (.node (o197_228 P) (.node (o325_361 P) .nil .nil) .nil)) (.node (o101_130 P) (.node (o7_7 P) (.node (o7_7 P) .nil .nil) .nil) (.node (o229_260 P) (.node (o357_393 P) .nil .nil) .nil))) (.node (o53_82 P) (.node (o7_7 P) (.node (o8_8 P) (.node (o277_313 P) .nil .nil) .nil) (.node (o7_7 P) (.node (o7_7 P) .nil .nil) .nil)) (.node (o117_146 P) (.node (o181_212 P) (.node (o309_345 P) .nil .nil) .nil) (.node (o245_279 P) .nil .nil)))) (.node (o29_307 P) (.node (o6_6 P) (.node (o77_106 P) (.node (o141_170 P) (.node (o269_303 P) .nil .nil) .nil) (.node (o205_236 P) (.node (o7_7 P) .nil .nil) .nil)) (.node (o109_138 P) (.node (o173_202 P) (.node (o8_8 P) .nil .nil) .nil) (.node (o237_268 P) .nil .nil))) (.node (o61_90 P) (.node (o7_7 P) (.node (o157_186 P) (.node (o285_321 P) .nil .nil) .nil) (.node (o50_79 P) (.node (o349_385 P) .nil .nil) .nil)) (.node (o8_8 P) (.node (o189_220 P) (.node (o317_353 P) .nil .nil) .nil) (.node (o7_7 P) .nil .nil))))))) (.node (o2_2 P) (.node (o4_4 P) (.node (o8_8 P) (.node (o16_16 P) (.node (o7_7 P) (.node (o7_7 P) (.node (o128_157 P) (.node (o7_7 P) .nil .nil) .nil) (.node (o8_8 P) (.node (o8_8 P) .nil .nil) .nil)) (.node (o96_125 P) (.node (o160_189 P) (.node (o288_324 P) .nil .nil) .nil) (.node (o224_255 P) (.node (o352_388 P) .nil .nil) .nil))) (.node (o48_75 P) (.node (o80_109 P) (.node (o8_8 P) (.node (o7_7 P) .nil .nil) .nil) (.node (o208_239 P) (.node (o336_372 P) .nil .nil) .nil)) (.node (o7_7 P) (.node (o7_7 P) (.node (o304_340 P) .nil .nil) .nil) (.node (o50_79 P) .nil .nil)))) (.node (o24_24 P) (.node (o6_6 P) (.node (o8_8 P) (.node (o7_7 P) (.node (o264_298 P) .nil .nil) .nil) (.node (o8_8 P) (.node (o328_364 P) .nil .nil) .nil)) (.node (o7_7 P) (.node (o168_197 P) (.node (o7_7 P) .nil .nil) .nil) (.node (o232_263 P) .nil .nil))) (.node (o41_68 P) (.node (o88_117 P) (.node (o152_181 P) (.node (o8_8 P) .nil .nil) .nil) (.node (o7_7 P) (.node (o344_380 P) .nil .nil) .nil)) (.node (o8_8 P) (.node (o8_8 P) (.node (o312_348 P) .nil .nil) .nil) (.node (o248_282 P) .nil .nil))))) (.node (o12_12 P) (.node (o20_20 P) (.node (o36_63 P) (.node (o68_97 P) (.node (o7_7 P) (.node (o7_7 P) .nil .nil) .nil) (.node (o196_227 P) (.node (o324_360 P) .nil .nil) .nil)) (.node (o7_7 P) (.node (o164_193 P) (.node (o292_328 P) .nil .nil) .nil) (.node (o8_8 P) (.node (o8_8 P) .nil .nil) .nil))) (.node (o7_7 P) (.node (o84_113 P) (.node (o7_7 P) (.node (o276_312 P) .nil .nil) .nil) (.node (o212_243 P) (.node (o340_376 P) .nil .nil) .nil)) (.node (o116_145 P) (.node (o180_211 P) (.node (o8_8 P) .nil .nil) .nil) (.node (o244_278 P) .nil .nil)))) (.node (o7_7 P) (.node (o44_71 P) (.node (o76_105 P) (.node (o140_169 P) (.node (o268_302 P) .nil .nil) .nil) (.node (o204_235 P) (.node (o332_368 P) .nil .nil) .nil)) (.node (o108_137 P) (.node (o172_201 P) (.node (o7_7 P) .nil .nil) .nil) (.node (o236_272 P) .nil .nil))) (.node (o7_7 P) (.node (o92_121 P) (.node (o8_8 P) (.node (o284_320 P) .nil .nil) .nil) (.node (o220_251 P) (.node (o348_384 P) .nil .nil) .nil)) (.node (o7_7 P) (.node (o188_219 P) (.node (o316_352 P) .nil .nil) .nil) (.node (o252_286 P) .nil .nil)))))) (.node (o6_6 P) (.node (o10_10 P) (.node (o18_18 P) (.node (o34_61 P) (.node (o66_95 P) (.node (o8_8 P) (.node (o258_292 P) .nil .nil) .nil) (.node (o7_7 P) (.node (o7_7 P) .nil .nil) .nil)) (.node (o8_8 P) (.node (o7_7 P) (.node (o290_326 P) .nil .nil) .nil) (.node (o226_257 P) (.node (o354_390 P) .nil .nil) .nil))) (.node (o50_79 P) (.node (o82_111 P) (.node (o146_175 P) (.node (o274_310 P) .nil .nil) .nil) (.node (o210_241 P) (.node (o7_7 P) .nil .nil) .nil)) (.node (o114_143 P) (.node (o178_209 P) (.node (o306_342 P) .nil .nil) .nil) (.node (o7_7 P) .nil .nil)))) (.node (o26_26 P) (.node (o42_69 P) (.node (o7_7 P) (.node (o138_167 P) (.node (o266_300 P) .nil .nil) .nil) (.node (o7_7 P) (.node (o330_366 P) .nil .nil) .nil)) (.node (o106_135 P) (.node (o170_199 P) (.node (o298_334 P) .nil .nil) .nil) (.node (o7_7 P) .nil .nil))) (.node (o8_8 P) (.node (o7_7 P) (.node (o154_183 P) (.node (o7_7 P) .nil .nil) .nil) (.node (o218_249 P) (.node (o8_8 P) .nil .nil) .nil)) (.node (o122_151 P) (.node (o7_7 P) (.node (o7_7 P) .nil .nil) .nil) (.node (o250_284 P) .nil .nil))))) (.node (o14_14 P) (.node (o22_22 P) (.node (o38_65 P) (.node (o70_99 P) (.node (o134_163 P) (.node (o262_296 P) .nil .nil) .nil) (.node (o41_68 P) (.node (o7_7 P) .nil .nil) .nil)) (.node (o102_131 P) (.node (o166_195 P) (.node (o8_8 P) .nil .nil) .nil) (.node (o7_7 P) (.node (o358_394 P) .nil .nil) .nil))) (.node (o54_83 P) (.node (o8_8 P) (.node (o150_179 P) (.node (o278_314 P) .nil .nil) .nil) (.node (o8_8 P) (.node (o342_378 P) .nil .nil) .nil)) (.node (o118_147 P) (.node (o182_213 P) (.node (o7_7 P) .nil .nil) .nil) (.node (o7_7 P) .nil .nil)))) (.node (o30_55 P) (.node (o41_68 P) (.node (o7_7 P) (.node (o142_171 P) (.node (o270_304 P) .nil .nil) .nil) (.node (o7_7 P) (.node (o8_8 P) .nil .nil) .nil)) (.node (o110_139 P) (.node (o174_203 P) (.node (o302_338 P) .nil .nil) .nil) (.node (o238_269 P) .nil .nil))) (.node (o62_91 P) (.node (o94_123 P) (.node (o7_7 P) (.node (o7_7 P) .nil .nil) .nil) (.node (o222_253 P) (.node (o7_7 P) .nil .nil) .nil)) (.node (o126_155 P) (.node (o190_221 P) (.node (o318_354 P) .nil .nil) .nil) (.node (o8_8 P) .nil .nil))))))))
noncomputable def He : Params → Heap := fun P => ⟨Array.mk [o0_0 P, o1_1 P, o2_2 P, o3_3 P, o4_4 P, o5_5 P, o6_6 P, o7_7 P, o8_8 P, o9_9 P, o10_10 P, o11_11 P, o12_12 P, o13_13 P, o14_14 P, o7_7 P, o16_16 P, o17_17 P, o18_18 P, o19_19 P, o20_20 P, o21_21 P, o22_22 P, o23_23 P, o24_24 P, o25_25 P, o26_26 P, o27_27 P], {}⟩
noncomputable def H0 : Params → Heap := fun P => ⟨Array.mk [o0_0 P, o1_1 P, o2_2 P, o3_3 P, o4_4 P, o5_5 P, o6_6 P, o7_7 P, o8_8 P, o9_9 P, o10_10 P, o11_37 P, o12_12 P, o13_13 P, o14_14 P, o7_7 P, o16_16 P, o17_17 P, o18_18 P, o19_19 P, o20_20 P, o21_21 P, o22_22 P, o23_23 P, o24_24 P, o25_25 P, o26_26 P, o27_27 P], {}⟩
noncomputable def Ha : Params → Heap := fun P => ⟨Array.mk [o0_0 P, o1_1 P, o2_2 P, o3_3 P, o4_4 P, o5_5 P, o6_6 P, o7_7 P, o8_8 P, o9_9 P, o10_10 P, o11_37 P, o12_12 P, o13_13 P, o14_14 P, o7_7 P, o16_16 P, o17_17 P, o18_18 P, o19_19 P, o20_20 P, o21_21 P, o22_22 P, o23_23 P, o24_24 P, o25_25 P, o26_26 P, o27_27 P, o7_7 P, o8_8 P, o30_55 P, o31_56 P], {}⟩
noncomputable def Hz : Params → Heap := fun P => ⟨Array.mk [o0_0 P, o1_1 P, o2_2 P, o3_306 P, o4_4 P, o5_5 P, o6_6 P, o7_7 P, o8_8 P, o9_9 P, o10_10 P, o11_37 P, o12_12 P, o13_13 P, o14_14 P, o7_7 P, o16_16 P, o17_17 P, o18_18 P, o19_19 P, o20_20 P, o21_21 P, o22_22 P, o23_23 P, o24_24 P, o25_25 P, o26_26 P, o27_27 P, o7_7 P, o29_307 P, o30_55 P, o31_56 P, o7_7 P, o8_8 P, o34_61 P, o7_7 P, o36_63 P, o37_64 P, o38_65 P, o39_66 P, o6_6 P, o41_68 P, o42_69 P, o43_70 P, o44_71 P, o6_6 P, o41_68 P, o47_74 P, o48_75 P, o7_7 P, o50_79 P, o51_80 P, o7_7 P, o53_82 P, o54_83 P, o55_84 P, o41_68 P, o7_7 P, o8_8 P, o59_88 P, o7_7 P, o61_90 P, o62_91 P, o63_92 P, o7_7 P, o8_8 P, o66_95 P, o7_7 P, o68_97 P, o69_98 P, o70_99 P, o7_7 P, o8_8 P, o73_102 P, o7_7 P, o75_104 P, o76_105 P, o77_106 P, o7_7 P, o8_8 P, o80_109 P, o7_7 P, o82_111 P, o83_112 P, o84_113 P, o7_7 P, o8_8 P, o87_116 P, o88_117 P, o89_118 P, o7_7 P, o8_8 P, o92_121 P, o7_7 P, o94_123 P, o95_124 P, o96_125 P, o7_7 P, o8_8 P, o99_128 P, o7_7 P, o101_130 P, o102_131 P, o103_132 P, o7_7 P, o8_8 P, o106_135 P, o7_7 P, o108_137 P, o109_138 P, o110_139 P, o41_68 P, o7_7 P, o8_8 P, o114_143 P, o7_7 P, o116_145 P, o117_146 P, o118_147 P, o7_7 P, o8_8 P, o121_150 P, o122_151 P, o123_152 P, o7_7 P, o8_8 P, o126_155 P, o127_156 P, o128_157 P, o7_7 P, o8_8 P, o131_160 P, o7_7 P, o133_162 P, o134_163 P, o135_164 P, o7_7 P, o8_8 P, o138_167 P, o7_7 P, o140_169 P, o141_170 P, o142_171 P, o7_7 P, o8_8 P, o145_174 P, o146_175 P, o147_176 P, o7_7 P, o8_8 P, o150_179 P, o7_7 P, o152_181 P, o153_182 P, o154_183 P, o7_7 P, o8_8 P, o157_186 P, o7_7 P, o159_188 P, o160_189 P, o161_190 P, o7_7 P, o8_8 P, o164_193 P, o7_7 P, o166_195 P, o167_196 P, o168_197 P, o169_198 P, o170_199 P, o171_200 P, o172_201 P, o173_202 P, o174_203 P, o175_204 P, o7_7 P, o8_8 P, o178_209 P, o7_7 P, o180_211 P, o181_212 P, o182_213 P, o7_7 P, o8_8 P, o185_216 P, o7_7 P, o187_218 P, o188_219 P, o189_220 P, o190_221 P, o7_7 P, o8_8 P, o193_224 P, o7_7 P, o195_226 P, o196_227 P, o197_228 P, o41_68 P, o7_7 P, o8_8 P, o201_232 P, o7_7 P, o203_234 P, o204_235 P, o205_236 P, o7_7 P, o8_8 P, o208_239 P, o7_7 P, o210_241 P, o211_242 P, o212_243 P, o7_7 P, o8_8 P, o215_246 P, o7_7 P, o217_248 P, o218_249 P, o219_250 P, o220_251 P, o50_79 P, o222_253 P, o7_7 P, o224_255 P, o225_256 P, o226_257 P, o7_7 P, o8_8 P, o229_260 P, o7_7 P, o231_262 P, o232_263 P, o233_264 P, o7_7 P, o235_266 P, o236_272 P, o237_268 P, o238_269 P, o239_273 P, o50_79 P, o241_275 P, o7_7 P, o243_277 P, o244_278 P, o245_279 P, o7_7 P, o8_8 P, o248_282 P, o7_7 P, o250_284 P, o251_285 P, o252_286 P, o7_7 P, o8_8 P, o255_289 P, o7_7 P, o257_291 P, o258_292 P, o259_293 P, o7_7 P, o8_8 P, o262_296 P, o7_7 P, o264_298 P, o265_299 P, o266_300 P, o7_7 P, o268_302 P, o269_303 P, o270_304 P, o271_305 P, o7_7 P, o8_8 P, o274_310 P, o7_7 P, o276_312 P, o277_313 P, o278_314 P, o7_7 P, o8_8 P, o281_317 P, o7_7 P, o283_319 P, o284_320 P, o285_321 P, o7_7 P, o8_8 P, o288_324 P, o7_7 P, o290_326 P, o291_327 P, o292_328 P, o7_7 P, o8_8 P, o295_331 P, o7_7 P, o297_333 P, o298_334 P, o299_335 P, o7_7 P, o8_8 P, o302_338 P, o7_7 P, o304_340 P, o305_341 P, o306_342 P, o7_7 P, o8_8 P, o309_345 P, o7_7 P, o311_347 P, o312_348 P, o313_349 P, o7_7 P, o8_8 P, o316_352 P, o317_353 P, o318_354 P, o7_7 P, o8_8 P, o321_357 P, o7_7 P, o323_359 P, o324_360 P, o325_361 P, o7_7 P, o8_8 P, o328_364 P, o7_7 P, o330_366 P, o331_367 P, o332_368 P, o7_7 P, o8_8 P, o335_371 P, o336_372 P, o337_373 P, o7_7 P, o8_8 P, o340_376 P, o7_7 P, o342_378 P, o343_379 P, o344_380 P, o7_7 P, o8_8 P, o347_383 P, o348_384 P, o349_385 P, o7_7 P, o8_8 P, o352_388 P, o353_389 P, o354_390 P, o7_7 P, o8_8 P, o357_393 P, o358_394 P, o359_395 P], {}⟩
noncomputable def L1 : List Stmt := (stm 1).take 4
noncomputable def L2 : List Stmt := (stm 5).take 1
noncomputable def L3 : List Stmt := (stm 6).take 14
noncomputable def L4 : List Stmt := (stm 20).take 1
noncomputable def L5 : List Stmt := stm 21
noncomputable def bodyA : List Stmt := L1 ++ (L2 ++ (L3 ++ (L4 ++ (L5 ++ ([])))))
noncomputable abbrev pr : Program := (OpenRow.toRowW (OpenLaw.row PySem.Challenge.rw_rt0088_01)).prog
noncomputable def ev : Env := { scope := pr.main.scope, locals := mainNs, globals := mainNs, cells := [], code := .ref 30, frame := some 31 }
noncomputable abbrev cE : Code := .body bodyA ev
noncomputable abbrev fB : List Frame := [topFrame ⟨0, 0, 0, 0⟩]
noncomputable abbrev dr : Drawn := {}
noncomputable abbrev sT (T : Params → BT) (n k : Nat) (w : World) (os : OsState) : SharedT := SharedT.mk (T w.params) n {} (Array.mk []) dr k os
theorem imp_ok (w : World) : importEnds treeTable (opening pr) w 799 (start (opening pr)).1 (start (opening pr)).2 = some ⟨He w.params, Array.mk [], dr, 276, (start (opening pr)).1.os⟩ := by
  rw [PySem.W.Fast.te14364793385576792824, PySem.W.Fast.te10274390034422433532, PySem.W.Fast.te1435165496053646825]
  kernel_rfl
theorem open_ok : ∀ w : World, (fencedOpening treeTable pr w 4436).map (fun s => (s.heap, s.gens, s.drawn, s.toks)) = some (H0 w.params, Array.mk [], dr, 276) :=
  open_cut imp_ok (by decide) (fun w => by kernel_rfl)
theorem pre_ok (w : World) (os : OsState) : topGo treeTable pr w 28 (some (.ref 6)) 12 ⟨H0 w.params, Array.mk [] , dr, 276, os⟩ (topStub pr) = some (⟨Ha w.params, Array.mk [] , dr, 282, os⟩, ⟨denote treeTable cE, cE, ⟨0, 0, 0, 0⟩, fB⟩) := by
  kernel_rfl
theorem block_ok (w : World) (os : OsState) : segRun treeTable pr w 28 (some (.ref 6)) 1 1 ⟨Ha w.params, Array.mk [] , dr, 282, os⟩ (blockOf bodyA ev cE ⟨0, 0, 0, 0⟩ fB) = some (.next, (sT T1 32 282 w os).abs, cE, ⟨0, 0, 0, 0⟩) := by
  kernel_rfl
theorem g1_ok (w : World) (os : OsState) : segRunT treeTable pr w 28 (some (.ref 6)) 1 185 (sT T1 32 282 w os) (piecesOf L1 ev cE ⟨0, 0, 0, 0⟩ fB) = some (.next, (sT T5 49 351 w os), cE, ⟨7, 0, 7, 20⟩) := by
  rw [PySem.W.Fast.te10110043849684766642, PySem.W.Fast.te14364793385576792824]
  kernel_rfl
theorem g2_ok (w : World) (os : OsState) : segRunT treeTable pr w 28 (some (.ref 6)) 1 729 (sT T5 49 351 w os) (piecesOf L2 ev cE ⟨7, 0, 7, 20⟩ fB) = some (.next, (sT T6 176 508 w os), cE, ⟨8, 0, 82, 16⟩) := by
  rw [PySem.W.Fast.te10110043849684766642, PySem.W.Fast.te14364793385576792824]
  kernel_rfl
theorem g3_ok (w : World) (os : OsState) : segRunT treeTable pr w 28 (some (.ref 6)) 1 480 (sT T6 176 508 w os) (piecesOf L3 ev cE ⟨8, 0, 82, 16⟩ fB) = some (.next, (sT T20 239 604 w os), cE, ⟨140, 0, 140, 8⟩) := by
  rw [PySem.W.Fast.te10110043849684766642, PySem.W.Fast.te14364793385576792824]
  kernel_rfl
theorem g4_ok (w : World) (os : OsState) : segRunT treeTable pr w 28 (some (.ref 6)) 1 310 (sT T20 239 604 w os) (piecesOf L4 ev cE ⟨140, 0, 140, 8⟩ fB) = some (.next, (sT T21 272 645 w os), cE, ⟨141, 0, 155, 16⟩) := by
  rw [PySem.W.Fast.te10110043849684766642, PySem.W.Fast.te14364793385576792824]
  kernel_rfl
theorem g5_ok (w : World) (os : OsState) : segRunT treeTable pr w 28 (some (.ref 6)) 1 456 (sT T21 272 645 w os) (piecesOf L5 ev cE ⟨141, 0, 155, 16⟩ fB) = some (.next, (sT T39 360 774 w os), cE, ⟨280, 0, 282, 101⟩) := by
  rw [PySem.W.Fast.te10110043849684766642, PySem.W.Fast.te14364793385576792824]
  kernel_rfl
theorem fin_ok (w : World) (os : OsState) : topRun treeTable pr w 28 (some (.ref 6)) 2 (sT T39 360 774 w os).abs ⟨doneF .next, cE, ⟨280, 0, 282, 101⟩, fB⟩ = some ⟨Hz w.params, Array.mk [], dr, 774, os⟩ := by
  rw [PySem.W.Fast.te14082659384304107361, PySem.W.Fast.te14364793385576792824]
  kernel_rfl
theorem run_ok (w : World) (os : OsState) : topRun treeTable pr w 28 (some (.ref 6)) (12 + (1 + (185 + (729 + (480 + (310 + (456 + 2))))))) ⟨H0 w.params, Array.mk [] , dr, 276, os⟩ (topStub pr) = some ⟨Hz w.params, Array.mk [], dr, 774, os⟩ :=
  go_top (pre_ok w os) (piece_block (block_ok w os) (piece_app (segRun_of (g1_ok w os)) (piece_app (segRun_of (g2_ok w os)) (piece_app (segRun_of (g3_ok w os)) (piece_app (segRun_of (g4_ok w os)) (piece_app (segRun_of (g5_ok w os)) (piece_nil (fin_ok w os))))))))
noncomputable def heap_39 : Params → Frag := by
  refine' (?F : (x : Params → Frag) → x = (fun P =>
  (nat_lit 2, (Obj.mk Value.none none (Data.dict (List.toArray [(DictEntry.mk (PyData.keyHash P (Str.ofString "\x69mport.loaded._sre")) (Value.str (Str.ofString "\x69mport.loaded._sre") 183) (Value.bool Bool.true)), (DictEntry.mk (PyData.keyHash P (Str.ofString "class._frozen_importlib.BuiltinImporter")) (Value.str (Str.ofString "class._frozen_importlib.BuiltinImporter") 185) (Value.ref 14)), (DictEntry.mk (PyData.keyHash P (Str.ofString "watched.\x69mport")) (Value.str (Str.ofString "watched.\x69mport") 206) (Value.ref 18)), (DictEntry.mk (PyData.keyHash P (Str.ofString "class._frozen_importlib.ModuleSpec")) (Value.str (Str.ofString "class._frozen_importlib.ModuleSpec") 216) (Value.ref 22)), (DictEntry.mk (PyData.keyHash P (Str.ofString "sys.modules.booked-epoch")) (Value.str (Str.ofString "sys.modules.booked-epoch") 245) (Value.int 3 0)), (DictEntry.mk (PyData.keyHash P (Str.ofString "\x69mport.later-laid._sre")) (Value.str (Str.ofString "\x69mport.later-laid._sre") 270) (Value.bool Bool.true)), (DictEntry.mk (PyData.keyHash P (Str.ofString "watched.library")) (Value.str (Str.ofString "watched.library") 272) (Value.ref 27)), (DictEntry.mk (PyData.keyHash P (Str.ofString "watched.library-objects")) (Value.str (Str.ofString "watched.library-objects") 0) (Value.str (Str.ofString "\x0c") 0)), (DictEntry.mk (PyData.keyHash P (Str.ofString "watched.library-deep._sre")) (Value.str (Str.ofString "watched.library-deep._sre") 273) (Value.str (Str.ofString "\x04\x00\x00\x0b\x04\x00\x00\x0b\x04\x00\x00\x03\x04\x00\x00\x0b\x08\x04dict\x02") 0))]) 9) (List.toArray []))) ::
  (nat_lit 3, (Obj.mk (Value.type "dict") none (Data.dict (List.toArray ((DictEntry.mk (PyData.keyHash P (Str.ofString "__name__")) (Value.str (Str.ofString "__name__") 165) (Value.str (Str.ofString "law_rt0088_01") 708)) :: (DictEntry.mk (PyData.keyHash P (Str.ofString "__doc__")) (Value.str (Str.ofString "__doc__") 166) Value.none) :: (DictEntry.mk (PyData.keyHash P (Str.ofString "__package__")) (Value.str (Str.ofString "__package__") 167) Value.none) :: (DictEntry.mk (PyData.keyHash P (Str.ofString "__loader__")) (Value.str (Str.ofString "__loader__") 168) (Value.builtin "__main__.__loader__#opaque")) :: (DictEntry.mk (PyData.keyHash P (Str.ofString "__spec__")) (Value.str (Str.ofString "__spec__") 169) Value.none) :: (DictEntry.mk (PyData.keyHash P (Str.ofString "__annotations__")) (Value.str (Str.ofString "__annotations__") 170) (Value.ref 6)) :: (DictEntry.mk (PyData.keyHash P (Str.ofString "__builtins__")) (Value.str (Str.ofString "__builtins__") 171) (Value.ref 4)) :: (DictEntry.mk (PyData.keyHash P (Str.ofString "__file__")) (Value.str (Str.ofString "__file__") 173) (Value.str (Str.ofString "/claim/cut.py") 172)) :: (DictEntry.mk (PyData.keyHash P (Str.ofString "__cached__")) (Value.str (Str.ofString "__cached__") 174) Value.none) :: (DictEntry.mk (PyData.keyHash P (Str.ofString "_sre")) (Value.str (Str.ofString "_sre") 275) (Value.ref 12)) :: (DictEntry.mk (PyData.keyHash P (Str.ofString "_wall")) (Value.str (Str.ofString "_wall") 288) (Value.ref 38)) :: (DictEntry.mk (PyData.keyHash P (Str.ofString "_name_disallowed_re")) (Value.str (Str.ofString "_name_disallowed_re") 316) (Value.ref 43)) :: (DictEntry.mk (PyData.keyHash P (Str.ofString "_value_disallowed_re")) (Value.str (Str.ofString "_value_disallowed_re") 350) (Value.ref 48)) :: (DictEntry.mk (PyData.keyHash P (Str.ofString "Headers")) (Value.str (Str.ofString "Headers") 507) (Value.ref 171)) :: (DictEntry.mk (PyData.keyHash P (Str.ofString "_buffer")) (Value.str (Str.ofString "_buffer") 517) (Value.ref 182)) :: (DictEntry.mk (PyData.keyHash P (Str.ofString "_truth")) (Value.str (Str.ofString "_truth") 525) (Value.ref 189)) :: (DictEntry.mk (PyData.keyHash P (Str.ofString "_B64")) (Value.str (Str.ofString "_B64") 527) (Value.bytes (List.toArray (65 :: 66 :: 67 :: 68 :: 69 :: 70 :: 71 :: 72 :: 73 :: 74 :: 75 :: 76 :: 77 :: 78 :: 79 :: 80 :: 81 :: 82 :: 83 :: 84 :: 85 :: 86 :: 87 :: 88 :: 89 :: 90 :: 97 :: 98 :: 99 :: 100 :: 101 :: 102 :: 103 :: 104 :: 105 :: 106 :: 107 :: 108 :: 109 :: 110 :: 111 :: 112 :: 113 :: 114 :: 115 :: 116 :: 117 :: 118 :: 119 :: 120 :: 121 :: 122 :: 48 :: 49 :: 50 :: 51 :: 52 :: 53 :: 54 :: 55 :: 56 :: 57 :: 43 :: 47 :: [])) 526)) :: (DictEntry.mk (PyData.keyHash P (Str.ofString "b2a_base64")) (Value.str (Str.ofString "b2a_base64") 541) (Value.ref 197)) :: (DictEntry.mk (PyData.keyHash P (Str.ofString "b64encode")) (Value.str (Str.ofString "b64encode") 552) (Value.ref 205)) :: (DictEntry.mk (PyData.keyHash P (Str.ofString "_urlsafe_encode_translation")) (Value.str (Str.ofString "_urlsafe_encode_translation") 557) (Value.bytes (List.toArray (0 :: 1 :: 2 :: 3 :: 4 :: 5 :: 6 :: 7 :: 8 :: 9 :: 10 :: 11 :: 12 :: 13 :: 14 :: 15 :: 16 :: 17 :: 18 :: 19 :: 20 :: 21 :: 22 :: 23 :: 24 :: 25 :: 26 :: 27 :: 28 :: 29 :: 30 :: 31 :: 32 :: 33 :: 34 :: 35 :: 36 :: 37 :: 38 :: 39 :: 40 :: 41 :: 42 :: 45 :: 44 :: 45 :: 46 :: 95 :: 48 :: 49 :: 50 :: 51 :: 52 :: 53 :: 54 :: 55 :: 56 :: 57 :: 58 :: 59 :: 60 :: 61 :: 62 :: 63 :: 64 :: 65 :: 66 :: 67 :: 68 :: 69 :: 70 :: 71 :: 72 :: 73 :: 74 :: 75 :: 76 :: 77 :: 78 :: 79 :: 80 :: 81 :: 82 :: 83 :: 84 :: 85 :: 86 :: 87 :: 88 :: 89 :: 90 :: 91 :: 92 :: 93 :: 94 :: 95 :: 96 :: 97 :: 98 :: 99 :: 100 :: 101 :: 102 :: 103 :: 104 :: 105 :: 106 :: 107 :: 108 :: 109 :: 110 :: 111 :: 112 :: 113 :: 114 :: 115 :: 116 :: 117 :: 118 :: 119 :: 120 :: 121 :: 122 :: 123 :: 124 :: 125 :: 126 :: 127 :: 128 :: 129 :: 130 :: 131 :: 132 :: 133 :: 134 :: 135 :: 136 :: 137 :: 138 :: 139 :: 140 :: 141 :: 142 :: 143 :: 144 :: 145 :: 146 :: 147 :: 148 :: 149 :: 150 :: 151 :: 152 :: 153 :: 154 :: 155 :: 156 :: 157 :: 158 :: 159 :: 160 :: 161 :: 162 :: 163 :: 164 :: 165 :: 166 :: 167 :: 168 :: 169 :: 170 :: 171 :: 172 :: 173 :: 174 :: 175 :: 176 :: 177 :: 178 :: 179 :: 180 :: 181 :: 182 :: 183 :: 184 :: 185 :: 186 :: 187 :: 188 :: 189 :: 190 :: 191 :: 192 :: 193 :: 194 :: 195 :: 196 :: 197 :: 198 :: 199 :: 200 :: 201 :: 202 :: 203 :: 204 :: 205 :: 206 :: 207 :: 208 :: 209 :: 210 :: 211 :: 212 :: 213 :: 214 :: 215 :: 216 :: 217 :: 218 :: 219 :: 220 :: 221 :: 222 :: 223 :: 224 :: 225 :: 226 :: 227 :: 228 :: 229 :: 230 :: 231 :: 232 :: 233 :: 234 :: 235 :: 236 :: 237 :: 238 :: 239 :: 240 :: 241 :: 242 :: 243 :: 244 :: 245 :: 246 :: 247 :: 248 :: 249 :: 250 :: 251 :: 252 :: 253 :: 254 :: 255 :: [])) 556)) :: (DictEntry.mk (PyData.keyHash P (Str.ofString "urlsafe_b64encode")) (Value.str (Str.ofString "urlsafe_b64encode") 564) (Value.ref 212)) :: (DictEntry.mk (PyData.keyHash P (Str.ofString "_plain_name")) (Value.str (Str.ofString "_plain_name") 575) (Value.ref 219)) :: (DictEntry.mk (PyData.keyHash P (Str.ofString "ABCMeta")) (Value.str (Str.ofString "ABCMeta") 601) (Value.ref 236)) :: (DictEntry.mk (PyData.keyHash P (Str.ofString "_ABCLike")) (Value.str (Str.ofString "_ABCLike") 644) (Value.ref 269)) :: (DictEntry.mk (PyData.keyHash P (Str.ofString "_abc_plain_meta")) (Value.str (Str.ofString "_abc_plain_meta") 651) (Value.ref 278)) :: (DictEntry.mk (PyData.keyHash P (Str.ofString "fspath")) (Value.str (Str.ofString "fspath") 663) (Value.ref 285)) :: (DictEntry.mk (PyData.keyHash P (Str.ofString "_check_arg_types")) (Value.str (Str.ofString "_check_arg_types") 676) (Value.ref 292)) :: (DictEntry.mk (PyData.keyHash P (Str.ofString "_get_sep")) (Value.str (Str.ofString "_get_sep") 685) (Value.ref 299)) :: (DictEntry.mk (PyData.keyHash P (Str.ofString "join")) (Value.str (Str.ofString "join") 696) (Value.ref 306)) :: (DictEntry.mk (PyData.keyHash P (Str.ofString "split")) (Value.str (Str.ofString "split") 707) (Value.ref 313)) :: (DictEntry.mk (PyData.keyHash P (Str.ofString "_law_written")) (Value.str (Str.ofString "_law_written") 715) (Value.ref 318)) :: (DictEntry.mk (PyData.keyHash P (Str.ofString "_law_step")) (Value.str (Str.ofString "_law_step") 724) (Value.ref 325)) :: (DictEntry.mk (PyData.keyHash P (Str.ofString "_law_tree")) (Value.str (Str.ofString "_law_tree") 738) (Value.ref 332)) :: (DictEntry.mk (PyData.keyHash P (Str.ofString "_law_left")) (Value.str (Str.ofString "_law_left") 744) (Value.ref 337)) :: (DictEntry.mk (PyData.keyHash P (Str.ofString "_law_fronts")) (Value.str (Str.ofString "_law_fronts") 755) (Value.ref 344)) :: (DictEntry.mk (PyData.keyHash P (Str.ofString "_law_ends")) (Value.str (Str.ofString "_law_ends") 761) (Value.ref 349)) :: (DictEntry.mk (PyData.keyHash P (Str.ofString "_law_run")) (Value.str (Str.ofString "_law_run") 767) (Value.ref 354)) :: (DictEntry.mk (PyData.keyHash P (Str.ofString "law")) (Value.str (Str.ofString "law") 773) (Value.ref 359)) :: [])) 38) (List.toArray []))) ::
  (nat_lit 32, (Obj.mk (Value.type "tuple") none (Data.seq (List.toArray []) 0) (List.toArray []))) ::
  (nat_lit 34, (Obj.mk (Value.type "tuple") none (Data.seq (List.toArray [(Value.str (Str.ofString "k") 285)]) 0) (List.toArray []))) ::
  (nat_lit 35, (Obj.mk (Value.type "tuple") none (Data.seq (List.toArray []) 0) (List.toArray []))) ::
  (nat_lit 37, (Obj.mk (Value.type "code") none (Data.fields (List.toArray [(Value.str (Str.ofString "_wall") 282), (Value.str (Str.ofString "_wall") 283), (Value.str (Str.ofString "/claim/cut.py") 284), (Value.int 2 0), (Value.int 1 0), (Value.int 0 0), (Value.int 0 0), (Value.int 3 0), (Value.ref 32), (Value.bool Bool.true), (Value.int 276 0), (Value.ref 33), Value.none, (Value.ref 34), (Value.ref 35), (Value.ref 36), (Value.int 286 0), (Value.int 2 0), (Value.str (Str.ofString "/claim/cut.py") 287)])) (List.toArray []))) ::
  (nat_lit 38, (Obj.mk (Value.type "function") none (Data.func (FuncData.mk (Str.ofString "_wall") (Str.ofString "_wall") a1 (FuncBody.stmts b1) s1 3 [] Value.none Value.none Value.none (Value.str (Str.ofString "__main__") 164) none (Value.ref 37) Value.none 0)) (List.toArray []))) ::
  (nat_lit 42, (Obj.mk (Value.type "tuple") none (Data.seq (List.toArray [(Value.int 14 0), (Value.int 10 0), (Value.int 4 0), (Value.int 1 0), (Value.int 1 0), (Value.int 22 0), (Value.int 0 0), (Value.int 31 0), (Value.int 16 0), (Value.int 127 0), (Value.int 0 0), (Value.int 13 0), (Value.int 7 0), (Value.int 22 0), (Value.int 0 0), (Value.int 31 0), (Value.int 16 0), (Value.int 127 0), (Value.int 0 0), (Value.int 1 0)]) 0) (List.toArray []))) ::
  (nat_lit 43, (Obj.mk (Value.type "re.Pattern") none (Data.fields (List.toArray [(Value.str (Str.ofString "[\\x00-\\x1F\\x7F]") 292), (Value.int 32 315), (Value.int 0 0), Value.none, Value.none, (Value.ref 42), (Value.int 0 0)])) (List.toArray []))) ::
  (nat_lit 47, (Obj.mk (Value.type "tuple") none (Data.seq (List.toArray ((Value.int 14 0) :: (Value.int 14 0) :: (Value.int 4 0) :: (Value.int 1 0) :: (Value.int 1 0) :: (Value.int 9 0) :: (Value.int 4294966783 0) :: (Value.int 0 0) :: (Value.int 0 0) :: (Value.int 2147483648 0) :: (Value.int 0 0) :: (Value.int 0 0) :: (Value.int 0 0) :: (Value.int 0 0) :: (Value.int 0 0) :: (Value.int 13 0) :: (Value.int 11 0) :: (Value.int 9 0) :: (Value.int 4294966783 0) :: (Value.int 0 0) :: (Value.int 0 0) :: (Value.int 2147483648 0) :: (Value.int 0 0) :: (Value.int 0 0) :: (Value.int 0 0) :: (Value.int 0 0) :: (Value.int 0 0) :: (Value.int 1 0) :: [])) 0) (List.toArray []))) ::
  (nat_lit 48, (Obj.mk (Value.type "re.Pattern") none (Data.fields (List.toArray [(Value.str (Str.ofString "[\\x00-\\x08\\x0A-\\x1F\\x7F]") 318), (Value.int 32 349), (Value.int 0 0), Value.none, Value.none, (Value.ref 47), (Value.int 0 0)])) (List.toArray []))) ::
  (nat_lit 56, (Obj.mk (Value.type "tuple") none (Data.seq (List.toArray [Value.none]) 0) (List.toArray []))) ::
  (nat_lit 57, (Obj.mk (Value.type "tuple") none (Data.seq (List.toArray []) 0) (List.toArray []))) ::
  (nat_lit 59, (Obj.mk (Value.type "tuple") none (Data.seq (List.toArray [(Value.str (Str.ofString "self") 366), (Value.str (Str.ofString "headers") 367), (Value.str (Str.ofString "k") 368), (Value.str (Str.ofString "v") 369)]) 0) (List.toArray []))) ::
  (nat_lit 60, (Obj.mk (Value.type "tuple") none (Data.seq (List.toArray []) 0) (List.toArray []))) ::
  (nat_lit 62, (Obj.mk (Value.type "code") none (Data.fields (List.toArray [(Value.str (Str.ofString "__init__") 363), (Value.str (Str.ofString "Headers.__init__") 364), (Value.str (Str.ofString "/claim/cut.py") 365), (Value.int 10 0), (Value.int 2 0), (Value.int 0 0), (Value.int 0 0), (Value.int 3 0), (Value.ref 57), (Value.bool Bool.true), (Value.int 276 0), (Value.ref 58), Value.none, (Value.ref 59), (Value.ref 60), (Value.ref 61), (Value.int 370 0), (Value.int 10 0), (Value.str (Str.ofString "/claim/cut.py") 371)])) (List.toArray []))) ::
  (nat_lit 63, (Obj.mk (Value.type "function") none (Data.func (FuncData.mk (Str.ofString "__init__") (Str.ofString "Headers.__init__") a5_0 (FuncBody.stmts b5_0) s5_0 3 [] (Value.ref 56) Value.none Value.none (Value.str (Str.ofString "cpy313.wsgiref.headers") 289) none (Value.ref 62) Value.none 0)) (List.toArray []))) ::
  (nat_lit 64, (Obj.mk (Value.type "tuple") none (Data.seq (List.toArray []) 0) (List.toArray []))) ::
  (nat_lit 66, (Obj.mk (Value.type "tuple") none (Data.seq (List.toArray [(Value.str (Str.ofString "self") 376), (Value.str (Str.ofString "value") 377), (Value.str (Str.ofString "name") 378), (Value.str (Str.ofString "regex") 379)]) 0) (List.toArray []))) ::
  (nat_lit 67, (Obj.mk (Value.type "tuple") none (Data.seq (List.toArray []) 0) (List.toArray []))) ::
  (nat_lit 69, (Obj.mk (Value.type "code") none (Data.fields (List.toArray [(Value.str (Str.ofString "_convert_string_type") 373), (Value.str (Str.ofString "Headers._convert_string_type") 374), (Value.str (Str.ofString "/claim/cut.py") 375), (Value.int 20 0), (Value.int 2 0), (Value.int 0 0), (Value.int 1 0), (Value.int 3 0), (Value.ref 64), (Value.bool Bool.true), (Value.int 276 0), (Value.ref 65), Value.none, (Value.ref 66), (Value.ref 67), (Value.ref 68), (Value.int 380 0), (Value.int 20 0), (Value.str (Str.ofString "/claim/cut.py") 381)])) (List.toArray []))) ::
  (nat_lit 70, (Obj.mk (Value.type "function") none (Data.func (FuncData.mk (Str.ofString "_convert_string_type") (Str.ofString "Headers._convert_string_type") a5_1 (FuncBody.stmts b5_1) s5_1 3 [] Value.none Value.none Value.none (Value.str (Str.ofString "cpy313.wsgiref.headers") 289) none (Value.ref 69) Value.none 0)) (List.toArray []))) ::
  (nat_lit 71, (Obj.mk (Value.type "tuple") none (Data.seq (List.toArray []) 0) (List.toArray []))) ::
  (nat_lit 73, (Obj.mk (Value.type "tuple") none (Data.seq (List.toArray [(Value.str (Str.ofString "self") 386)]) 0) (List.toArray []))) ::
  (nat_lit 74, (Obj.mk (Value.type "tuple") none (Data.seq (List.toArray []) 0) (List.toArray []))) ::
  (nat_lit 76, (Obj.mk (Value.type "code") none (Data.fields (List.toArray [(Value.str (Str.ofString "__len__") 383), (Value.str (Str.ofString "Headers.__len__") 384), (Value.str (Str.ofString "/claim/cut.py") 385), (Value.int 28 0), (Value.int 1 0), (Value.int 0 0), (Value.int 0 0), (Value.int 3 0), (Value.ref 71), (Value.bool Bool.true), (Value.int 276 0), (Value.ref 72), Value.none, (Value.ref 73), (Value.ref 74), (Value.ref 75), (Value.int 387 0), (Value.int 28 0), (Value.str (Str.ofString "/claim/cut.py") 388)])) (List.toArray []))) ::
  (nat_lit 77, (Obj.mk (Value.type "function") none (Data.func (FuncData.mk (Str.ofString "__len__") (Str.ofString "Headers.__len__") a5_2 (FuncBody.stmts b5_2) s5_2 3 [] Value.none Value.none Value.none (Value.str (Str.ofString "cpy313.wsgiref.headers") 289) none (Value.ref 76) Value.none 0)) (List.toArray []))) ::
  (nat_lit 78, (Obj.mk (Value.type "tuple") none (Data.seq (List.toArray []) 0) (List.toArray []))) ::
  (nat_lit 80, (Obj.mk (Value.type "tuple") none (Data.seq (List.toArray [(Value.str (Str.ofString "self") 393), (Value.str (Str.ofString "name") 394), (Value.str (Str.ofString "val") 395)]) 0) (List.toArray []))) ::
  (nat_lit 81, (Obj.mk (Value.type "tuple") none (Data.seq (List.toArray []) 0) (List.toArray []))) ::
  (nat_lit 83, (Obj.mk (Value.type "code") none (Data.fields (List.toArray [(Value.str (Str.ofString "__setitem__") 390), (Value.str (Str.ofString "Headers.__setitem__") 391), (Value.str (Str.ofString "/claim/cut.py") 392), (Value.int 31 0), (Value.int 3 0), (Value.int 0 0), (Value.int 0 0), (Value.int 3 0), (Value.ref 78), (Value.bool Bool.true), (Value.int 276 0), (Value.ref 79), Value.none, (Value.ref 80), (Value.ref 81), (Value.ref 82), (Value.int 396 0), (Value.int 31 0), (Value.str (Str.ofString "/claim/cut.py") 397)])) (List.toArray []))) ::
  (nat_lit 84, (Obj.mk (Value.type "function") none (Data.func (FuncData.mk (Str.ofString "__setitem__") (Str.ofString "Headers.__setitem__") a5_3 (FuncBody.stmts b5_3) s5_3 3 [] Value.none Value.none Value.none (Value.str (Str.ofString "cpy313.wsgiref.headers") 289) none (Value.ref 83) Value.none 0)) (List.toArray []))) ::
  (nat_lit 85, (Obj.mk (Value.type "tuple") none (Data.seq (List.toArray []) 0) (List.toArray []))) ::
  (nat_lit 88, (Obj.mk (Value.type "code") none (Data.fields (List.toArray [(Value.str (Str.ofString "__delitem__") 399), (Value.str (Str.ofString "Headers.__delitem__") 400), (Value.str (Str.ofString "/claim/cut.py") 401), (Value.int 35 0), (Value.int 2 0), (Value.int 0 0), (Value.int 0 0), (Value.int 3 0), (Value.ref 85), (Value.bool Bool.true), (Value.int 276 0), (Value.ref 86), Value.none, Value.none, Value.none, (Value.ref 87), (Value.int 402 0), (Value.int 35 0), (Value.str (Str.ofString "/claim/cut.py") 403)])) (List.toArray []))) ::
  (nat_lit 89, (Obj.mk (Value.type "function") none (Data.func (FuncData.mk (Str.ofString "__delitem__") (Str.ofString "Headers.__delitem__") a5_4 (FuncBody.stmts b5_4) s5_4 3 [] Value.none Value.none Value.none (Value.str (Str.ofString "cpy313.wsgiref.headers") 289) none (Value.ref 88) Value.none 0)) (List.toArray []))) ::
  (nat_lit 90, (Obj.mk (Value.type "tuple") none (Data.seq (List.toArray []) 0) (List.toArray []))) ::
  (nat_lit 92, (Obj.mk (Value.type "tuple") none (Data.seq (List.toArray [(Value.str (Str.ofString "self") 408), (Value.str (Str.ofString "name") 409)]) 0) (List.toArray []))) ::
  (nat_lit 93, (Obj.mk (Value.type "tuple") none (Data.seq (List.toArray []) 0) (List.toArray []))) ::
  (nat_lit 95, (Obj.mk (Value.type "code") none (Data.fields (List.toArray [(Value.str (Str.ofString "__getitem__") 405), (Value.str (Str.ofString "Headers.__getitem__") 406), (Value.str (Str.ofString "/claim/cut.py") 407), (Value.int 39 0), (Value.int 2 0), (Value.int 0 0), (Value.int 0 0), (Value.int 3 0), (Value.ref 90), (Value.bool Bool.true), (Value.int 276 0), (Value.ref 91), Value.none, (Value.ref 92), (Value.ref 93), (Value.ref 94), (Value.int 410 0), (Value.int 39 0), (Value.str (Str.ofString "/claim/cut.py") 411)])) (List.toArray []))) ::
  (nat_lit 96, (Obj.mk (Value.type "function") none (Data.func (FuncData.mk (Str.ofString "__getitem__") (Str.ofString "Headers.__getitem__") a5_5 (FuncBody.stmts b5_5) s5_5 3 [] Value.none Value.none Value.none (Value.str (Str.ofString "cpy313.wsgiref.headers") 289) none (Value.ref 95) Value.none 0)) (List.toArray []))) ::
  (nat_lit 97, (Obj.mk (Value.type "tuple") none (Data.seq (List.toArray []) 0) (List.toArray []))) ::
  (nat_lit 99, (Obj.mk (Value.type "tuple") none (Data.seq (List.toArray [(Value.str (Str.ofString "self") 416), (Value.str (Str.ofString "name") 417)]) 0) (List.toArray []))) ::
  (nat_lit 100, (Obj.mk (Value.type "tuple") none (Data.seq (List.toArray []) 0) (List.toArray []))) ::
  (nat_lit 102, (Obj.mk (Value.type "code") none (Data.fields (List.toArray [(Value.str (Str.ofString "__contains__") 413), (Value.str (Str.ofString "Headers.__contains__") 414), (Value.str (Str.ofString "/claim/cut.py") 415), (Value.int 42 0), (Value.int 2 0), (Value.int 0 0), (Value.int 0 0), (Value.int 3 0), (Value.ref 97), (Value.bool Bool.true), (Value.int 276 0), (Value.ref 98), Value.none, (Value.ref 99), (Value.ref 100), (Value.ref 101), (Value.int 418 0), (Value.int 42 0), (Value.str (Str.ofString "/claim/cut.py") 419)])) (List.toArray []))) ::
  (nat_lit 103, (Obj.mk (Value.type "function") none (Data.func (FuncData.mk (Str.ofString "__contains__") (Str.ofString "Headers.__contains__") a5_6 (FuncBody.stmts b5_6) s5_6 3 [] Value.none Value.none Value.none (Value.str (Str.ofString "cpy313.wsgiref.headers") 289) none (Value.ref 102) Value.none 0)) (List.toArray []))) ::
  (nat_lit 104, (Obj.mk (Value.type "tuple") none (Data.seq (List.toArray []) 0) (List.toArray []))) ::
  (nat_lit 106, (Obj.mk (Value.type "tuple") none (Data.seq (List.toArray [(Value.str (Str.ofString "self") 424), (Value.str (Str.ofString "name") 425)]) 0) (List.toArray []))) ::
  (nat_lit 107, (Obj.mk (Value.type "tuple") none (Data.seq (List.toArray []) 0) (List.toArray []))) ::
  (nat_lit 109, (Obj.mk (Value.type "code") none (Data.fields (List.toArray [(Value.str (Str.ofString "get_all") 421), (Value.str (Str.ofString "Headers.get_all") 422), (Value.str (Str.ofString "/claim/cut.py") 423), (Value.int 45 0), (Value.int 2 0), (Value.int 0 0), (Value.int 0 0), (Value.int 3 0), (Value.ref 104), (Value.bool Bool.true), (Value.int 276 0), (Value.ref 105), Value.none, (Value.ref 106), (Value.ref 107), (Value.ref 108), (Value.int 426 0), (Value.int 45 0), (Value.str (Str.ofString "/claim/cut.py") 427)])) (List.toArray []))) ::
  (nat_lit 110, (Obj.mk (Value.type "function") none (Data.func (FuncData.mk (Str.ofString "get_all") (Str.ofString "Headers.get_all") a5_7 (FuncBody.stmts b5_7) s5_7 3 [] Value.none Value.none Value.none (Value.str (Str.ofString "cpy313.wsgiref.headers") 289) none (Value.ref 109) Value.none 0)) (List.toArray []))) ::
  (nat_lit 111, (Obj.mk (Value.type "tuple") none (Data.seq (List.toArray [Value.none]) 0) (List.toArray []))) ::
  (nat_lit 112, (Obj.mk (Value.type "tuple") none (Data.seq (List.toArray []) 0) (List.toArray []))) ::
  (nat_lit 114, (Obj.mk (Value.type "tuple") none (Data.seq (List.toArray [(Value.str (Str.ofString "self") 432), (Value.str (Str.ofString "name") 433), (Value.str (Str.ofString "default") 434), (Value.str (Str.ofString "k") 435), (Value.str (Str.ofString "v") 436)]) 0) (List.toArray []))) ::
  (nat_lit 115, (Obj.mk (Value.type "tuple") none (Data.seq (List.toArray []) 0) (List.toArray []))) ::
  (nat_lit 117, (Obj.mk (Value.type "code") none (Data.fields (List.toArray [(Value.str (Str.ofString "get") 429), (Value.str (Str.ofString "Headers.get") 430), (Value.str (Str.ofString "/claim/cut.py") 431), (Value.int 48 0), (Value.int 3 0), (Value.int 0 0), (Value.int 0 0), (Value.int 3 0), (Value.ref 112), (Value.bool Bool.true), (Value.int 276 0), (Value.ref 113), Value.none, (Value.ref 114), (Value.ref 115), (Value.ref 116), (Value.int 437 0), (Value.int 48 0), (Value.str (Str.ofString "/claim/cut.py") 438)])) (List.toArray []))) ::
  (nat_lit 118, (Obj.mk (Value.type "function") none (Data.func (FuncData.mk (Str.ofString "get") (Str.ofString "Headers.get") a5_8 (FuncBody.stmts b5_8) s5_8 3 [] (Value.ref 111) Value.none Value.none (Value.str (Str.ofString "cpy313.wsgiref.headers") 289) none (Value.ref 117) Value.none 0)) (List.toArray []))) ::
  (nat_lit 119, (Obj.mk (Value.type "tuple") none (Data.seq (List.toArray []) 0) (List.toArray []))) ::
  (nat_lit 122, (Obj.mk (Value.type "code") none (Data.fields (List.toArray [(Value.str (Str.ofString "keys") 440), (Value.str (Str.ofString "Headers.keys") 441), (Value.str (Str.ofString "/claim/cut.py") 442), (Value.int 55 0), (Value.int 1 0), (Value.int 0 0), (Value.int 0 0), (Value.int 3 0), (Value.ref 119), (Value.bool Bool.true), (Value.int 276 0), (Value.ref 120), Value.none, Value.none, Value.none, (Value.ref 121), (Value.int 443 0), (Value.int 55 0), (Value.str (Str.ofString "/claim/cut.py") 444)])) (List.toArray []))) ::
  (nat_lit 123, (Obj.mk (Value.type "function") none (Data.func (FuncData.mk (Str.ofString "keys") (Str.ofString "Headers.keys") a5_9 (FuncBody.stmts b5_9) s5_9 3 [] Value.none Value.none Value.none (Value.str (Str.ofString "cpy313.wsgiref.headers") 289) none (Value.ref 122) Value.none 0)) (List.toArray []))) ::
  (nat_lit 124, (Obj.mk (Value.type "tuple") none (Data.seq (List.toArray []) 0) (List.toArray []))) ::
  (nat_lit 127, (Obj.mk (Value.type "code") none (Data.fields (List.toArray [(Value.str (Str.ofString "values") 446), (Value.str (Str.ofString "Headers.values") 447), (Value.str (Str.ofString "/claim/cut.py") 448), (Value.int 58 0), (Value.int 1 0), (Value.int 0 0), (Value.int 0 0), (Value.int 3 0), (Value.ref 124), (Value.bool Bool.true), (Value.int 276 0), (Value.ref 125), Value.none, Value.none, Value.none, (Value.ref 126), (Value.int 449 0), (Value.int 58 0), (Value.str (Str.ofString "/claim/cut.py") 450)])) (List.toArray []))) ::
  (nat_lit 128, (Obj.mk (Value.type "function") none (Data.func (FuncData.mk (Str.ofString "values") (Str.ofString "Headers.values") a5_10 (FuncBody.stmts b5_10) s5_10 3 [] Value.none Value.none Value.none (Value.str (Str.ofString "cpy313.wsgiref.headers") 289) none (Value.ref 127) Value.none 0)) (List.toArray []))) ::
  (nat_lit 129, (Obj.mk (Value.type "tuple") none (Data.seq (List.toArray []) 0) (List.toArray []))) ::
  (nat_lit 131, (Obj.mk (Value.type "tuple") none (Data.seq (List.toArray [(Value.str (Str.ofString "self") 455)]) 0) (List.toArray []))) ::
  (nat_lit 132, (Obj.mk (Value.type "tuple") none (Data.seq (List.toArray []) 0) (List.toArray []))) ::
  (nat_lit 134, (Obj.mk (Value.type "code") none (Data.fields (List.toArray [(Value.str (Str.ofString "items") 452), (Value.str (Str.ofString "Headers.items") 453), (Value.str (Str.ofString "/claim/cut.py") 454), (Value.int 61 0), (Value.int 1 0), (Value.int 0 0), (Value.int 0 0), (Value.int 3 0), (Value.ref 129), (Value.bool Bool.true), (Value.int 276 0), (Value.ref 130), Value.none, (Value.ref 131), (Value.ref 132), (Value.ref 133), (Value.int 456 0), (Value.int 61 0), (Value.str (Str.ofString "/claim/cut.py") 457)])) (List.toArray []))) ::
  (nat_lit 135, (Obj.mk (Value.type "function") none (Data.func (FuncData.mk (Str.ofString "items") (Str.ofString "Headers.items") a5_11 (FuncBody.stmts b5_11) s5_11 3 [] Value.none Value.none Value.none (Value.str (Str.ofString "cpy313.wsgiref.headers") 289) none (Value.ref 134) Value.none 0)) (List.toArray []))) ::
  (nat_lit 136, (Obj.mk (Value.type "tuple") none (Data.seq (List.toArray []) 0) (List.toArray []))) ::
  (nat_lit 138, (Obj.mk (Value.type "tuple") none (Data.seq (List.toArray [(Value.str (Str.ofString "self") 462)]) 0) (List.toArray []))) ::
  (nat_lit 139, (Obj.mk (Value.type "tuple") none (Data.seq (List.toArray []) 0) (List.toArray []))) ::
  (nat_lit 141, (Obj.mk (Value.type "code") none (Data.fields (List.toArray [(Value.str (Str.ofString "__repr__") 459), (Value.str (Str.ofString "Headers.__repr__") 460), (Value.str (Str.ofString "/claim/cut.py") 461), (Value.int 64 0), (Value.int 1 0), (Value.int 0 0), (Value.int 0 0), (Value.int 3 0), (Value.ref 136), (Value.bool Bool.true), (Value.int 276 0), (Value.ref 137), Value.none, (Value.ref 138), (Value.ref 139), (Value.ref 140), (Value.int 463 0), (Value.int 64 0), (Value.str (Str.ofString "/claim/cut.py") 464)])) (List.toArray []))) ::
  (nat_lit 142, (Obj.mk (Value.type "function") none (Data.func (FuncData.mk (Str.ofString "__repr__") (Str.ofString "Headers.__repr__") a5_12 (FuncBody.stmts b5_12) s5_12 3 [] Value.none Value.none Value.none (Value.str (Str.ofString "cpy313.wsgiref.headers") 289) none (Value.ref 141) Value.none 0)) (List.toArray []))) ::
  (nat_lit 143, (Obj.mk (Value.type "tuple") none (Data.seq (List.toArray []) 0) (List.toArray []))) ::
  (nat_lit 146, (Obj.mk (Value.type "code") none (Data.fields (List.toArray [(Value.str (Str.ofString "__str__") 466), (Value.str (Str.ofString "Headers.__str__") 467), (Value.str (Str.ofString "/claim/cut.py") 468), (Value.int 67 0), (Value.int 1 0), (Value.int 0 0), (Value.int 0 0), (Value.int 3 0), (Value.ref 143), (Value.bool Bool.true), (Value.int 276 0), (Value.ref 144), Value.none, Value.none, Value.none, (Value.ref 145), (Value.int 469 0), (Value.int 67 0), (Value.str (Str.ofString "/claim/cut.py") 470)])) (List.toArray []))) ::
  (nat_lit 147, (Obj.mk (Value.type "function") none (Data.func (FuncData.mk (Str.ofString "__str__") (Str.ofString "Headers.__str__") a5_13 (FuncBody.stmts b5_13) s5_13 3 [] Value.none Value.none Value.none (Value.str (Str.ofString "cpy313.wsgiref.headers") 289) none (Value.ref 146) Value.none 0)) (List.toArray []))) ::
  (nat_lit 148, (Obj.mk (Value.type "tuple") none (Data.seq (List.toArray []) 0) (List.toArray []))) ::
  (nat_lit 150, (Obj.mk (Value.type "tuple") none (Data.seq (List.toArray [(Value.str (Str.ofString "self") 475)]) 0) (List.toArray []))) ::
  (nat_lit 151, (Obj.mk (Value.type "tuple") none (Data.seq (List.toArray []) 0) (List.toArray []))) ::
  (nat_lit 153, (Obj.mk (Value.type "code") none (Data.fields (List.toArray [(Value.str (Str.ofString "__bytes__") 472), (Value.str (Str.ofString "Headers.__bytes__") 473), (Value.str (Str.ofString "/claim/cut.py") 474), (Value.int 70 0), (Value.int 1 0), (Value.int 0 0), (Value.int 0 0), (Value.int 3 0), (Value.ref 148), (Value.bool Bool.true), (Value.int 276 0), (Value.ref 149), Value.none, (Value.ref 150), (Value.ref 151), (Value.ref 152), (Value.int 476 0), (Value.int 70 0), (Value.str (Str.ofString "/claim/cut.py") 477)])) (List.toArray []))) ::
  (nat_lit 154, (Obj.mk (Value.type "function") none (Data.func (FuncData.mk (Str.ofString "__bytes__") (Str.ofString "Headers.__bytes__") a5_14 (FuncBody.stmts b5_14) s5_14 3 [] Value.none Value.none Value.none (Value.str (Str.ofString "cpy313.wsgiref.headers") 289) none (Value.ref 153) Value.none 0)) (List.toArray []))) ::
  (nat_lit 155, (Obj.mk (Value.type "tuple") none (Data.seq (List.toArray []) 0) (List.toArray []))) ::
  (nat_lit 157, (Obj.mk (Value.type "tuple") none (Data.seq (List.toArray [(Value.str (Str.ofString "self") 482), (Value.str (Str.ofString "name") 483), (Value.str (Str.ofString "value") 484), (Value.str (Str.ofString "result") 485)]) 0) (List.toArray []))) ::
  (nat_lit 158, (Obj.mk (Value.type "tuple") none (Data.seq (List.toArray []) 0) (List.toArray []))) ::
  (nat_lit 160, (Obj.mk (Value.type "code") none (Data.fields (List.toArray [(Value.str (Str.ofString "setdefault") 479), (Value.str (Str.ofString "Headers.setdefault") 480), (Value.str (Str.ofString "/claim/cut.py") 481), (Value.int 73 0), (Value.int 3 0), (Value.int 0 0), (Value.int 0 0), (Value.int 3 0), (Value.ref 155), (Value.bool Bool.true), (Value.int 276 0), (Value.ref 156), Value.none, (Value.ref 157), (Value.ref 158), (Value.ref 159), (Value.int 486 0), (Value.int 73 0), (Value.str (Str.ofString "/claim/cut.py") 487)])) (List.toArray []))) ::
  (nat_lit 161, (Obj.mk (Value.type "function") none (Data.func (FuncData.mk (Str.ofString "setdefault") (Str.ofString "Headers.setdefault") a5_15 (FuncBody.stmts b5_15) s5_15 3 [] Value.none Value.none Value.none (Value.str (Str.ofString "cpy313.wsgiref.headers") 289) none (Value.ref 160) Value.none 0)) (List.toArray []))) ::
  (nat_lit 162, (Obj.mk (Value.type "tuple") none (Data.seq (List.toArray []) 0) (List.toArray []))) ::
  (nat_lit 164, (Obj.mk (Value.type "tuple") none (Data.seq (List.toArray [(Value.str (Str.ofString "self") 492), (Value.str (Str.ofString "_name") 493), (Value.str (Str.ofString "_value") 494), (Value.str (Str.ofString "_params") 495)]) 0) (List.toArray []))) ::
  (nat_lit 165, (Obj.mk (Value.type "tuple") none (Data.seq (List.toArray []) 0) (List.toArray []))) ::
  (nat_lit 167, (Obj.mk (Value.type "code") none (Data.fields (List.toArray [(Value.str (Str.ofString "add_header") 489), (Value.str (Str.ofString "Headers.add_header") 490), (Value.str (Str.ofString "/claim/cut.py") 491), (Value.int 81 0), (Value.int 3 0), (Value.int 0 0), (Value.int 0 0), (Value.int 11 0), (Value.ref 162), (Value.bool Bool.true), (Value.int 276 0), (Value.ref 163), Value.none, (Value.ref 164), (Value.ref 165), (Value.ref 166), (Value.int 496 0), (Value.int 81 0), (Value.str (Str.ofString "/claim/cut.py") 497)])) (List.toArray []))) ::
  (nat_lit 168, (Obj.mk (Value.type "function") none (Data.func (FuncData.mk (Str.ofString "add_header") (Str.ofString "Headers.add_header") a5_16 (FuncBody.stmts b5_16) s5_16 3 [] Value.none Value.none Value.none (Value.str (Str.ofString "cpy313.wsgiref.headers") 289) none (Value.ref 167) Value.none 0)) (List.toArray []))) ::
  (nat_lit 169, (Obj.mk (Value.type "tuple") none (Data.seq (List.toArray [(Value.str (Str.ofString "_headers") 499)]) 0) (List.toArray []))) ::
  (nat_lit 170, (Obj.mk (Value.type "dict") none (Data.dict (List.toArray ((DictEntry.mk (PyData.keyHash P (Str.ofString "__module__")) (Value.str (Str.ofString "__module__") 358) (Value.str (Str.ofString "cpy313.wsgiref.headers") 289)) :: (DictEntry.mk (PyData.keyHash P (Str.ofString "__firstlineno__")) (Value.str (Str.ofString "__firstlineno__") 362) (Value.int 8 361)) :: (DictEntry.mk (PyData.keyHash P (Str.ofString "__init__")) (Value.str (Str.ofString "__init__") 372) (Value.ref 63)) :: (DictEntry.mk (PyData.keyHash P (Str.ofString "_convert_string_type")) (Value.str (Str.ofString "_convert_string_type") 382) (Value.ref 70)) :: (DictEntry.mk (PyData.keyHash P (Str.ofString "__len__")) (Value.str (Str.ofString "__len__") 389) (Value.ref 77)) :: (DictEntry.mk (PyData.keyHash P (Str.ofString "__setitem__")) (Value.str (Str.ofString "__setitem__") 398) (Value.ref 84)) :: (DictEntry.mk (PyData.keyHash P (Str.ofString "__delitem__")) (Value.str (Str.ofString "__delitem__") 404) (Value.ref 89)) :: (DictEntry.mk (PyData.keyHash P (Str.ofString "__getitem__")) (Value.str (Str.ofString "__getitem__") 412) (Value.ref 96)) :: (DictEntry.mk (PyData.keyHash P (Str.ofString "__contains__")) (Value.str (Str.ofString "__contains__") 420) (Value.ref 103)) :: (DictEntry.mk (PyData.keyHash P (Str.ofString "get_all")) (Value.str (Str.ofString "get_all") 428) (Value.ref 110)) :: (DictEntry.mk (PyData.keyHash P (Str.ofString "get")) (Value.str (Str.ofString "get") 439) (Value.ref 118)) :: (DictEntry.mk (PyData.keyHash P (Str.ofString "keys")) (Value.str (Str.ofString "keys") 445) (Value.ref 123)) :: (DictEntry.mk (PyData.keyHash P (Str.ofString "values")) (Value.str (Str.ofString "values") 451) (Value.ref 128)) :: (DictEntry.mk (PyData.keyHash P (Str.ofString "items")) (Value.str (Str.ofString "items") 458) (Value.ref 135)) :: (DictEntry.mk (PyData.keyHash P (Str.ofString "__repr__")) (Value.str (Str.ofString "__repr__") 465) (Value.ref 142)) :: (DictEntry.mk (PyData.keyHash P (Str.ofString "__str__")) (Value.str (Str.ofString "__str__") 471) (Value.ref 147)) :: (DictEntry.mk (PyData.keyHash P (Str.ofString "__bytes__")) (Value.str (Str.ofString "__bytes__") 478) (Value.ref 154)) :: (DictEntry.mk (PyData.keyHash P (Str.ofString "setdefault")) (Value.str (Str.ofString "setdefault") 488) (Value.ref 161)) :: (DictEntry.mk (PyData.keyHash P (Str.ofString "add_header")) (Value.str (Str.ofString "add_header") 498) (Value.ref 168)) :: (DictEntry.mk (PyData.keyHash P (Str.ofString "__static_attributes__")) (Value.str (Str.ofString "__static_attributes__") 500) (Value.ref 169)) :: (DictEntry.mk (PyData.keyHash P (Str.ofString "__dict__")) (Value.str (Str.ofString "__dict__") 502) (Value.ref 172)) :: (DictEntry.mk (PyData.keyHash P (Str.ofString "__weakref__")) (Value.str (Str.ofString "__weakref__") 504) (Value.ref 173)) :: (DictEntry.mk (PyData.keyHash P (Str.ofString "__doc__")) (Value.str (Str.ofString "__doc__") 505) Value.none) :: [])) 4) (List.toArray []))) ::
  (nat_lit 171, (Obj.mk (Value.type "type") none (Data.cls (ClassData.mk (Str.ofString "Headers") [(Value.type "object")] [(Value.ref 171), (Value.type "object")] 170 (Str.ofString "Headers") Bool.true [] [] Bool.false none Bool.false)) (List.toArray [none, none, (some (Value.str (Str.ofString "Headers") 351)), (some (Value.str (Str.ofString "Headers") 359)), (some (Value.builtin "object.__new__")), (some (Value.bool Bool.true))]))) ::
  (nat_lit 172, (Obj.mk (Value.type "getset_descriptor") none (Data.fields (List.toArray [(Value.str (Str.ofString "__dict__") 501), (Value.ref 171), (Value.builtin "function.__dict__"), (Value.builtin "function.__dict__#set")])) (List.toArray []))) ::
  (nat_lit 173, (Obj.mk (Value.type "getset_descriptor") none (Data.fields (List.toArray [(Value.str (Str.ofString "__weakref__") 503), (Value.ref 171), (Value.builtin "ExceptionGroup.__weakref__"), Value.none])) (List.toArray []))) ::
  (nat_lit 176, (Obj.mk (Value.type "tuple") none (Data.seq (List.toArray []) 0) (List.toArray []))) ::
  (nat_lit 178, (Obj.mk (Value.type "tuple") none (Data.seq (List.toArray [(Value.str (Str.ofString "data") 513), (Value.str (Str.ofString "t") 514)]) 0) (List.toArray []))) ::
  (nat_lit 179, (Obj.mk (Value.type "tuple") none (Data.seq (List.toArray []) 0) (List.toArray []))) ::
  (nat_lit 181, (Obj.mk (Value.type "code") none (Data.fields (List.toArray [(Value.str (Str.ofString "_buffer") 510), (Value.str (Str.ofString "_buffer") 511), (Value.str (Str.ofString "/claim/cut.py") 512), (Value.int 84 0), (Value.int 1 0), (Value.int 0 0), (Value.int 0 0), (Value.int 3 0), (Value.ref 176), (Value.bool Bool.true), (Value.int 276 0), (Value.ref 177), Value.none, (Value.ref 178), (Value.ref 179), (Value.ref 180), (Value.int 515 0), (Value.int 84 0), (Value.str (Str.ofString "/claim/cut.py") 516)])) (List.toArray []))) ::
  (nat_lit 182, (Obj.mk (Value.type "function") none (Data.func (FuncData.mk (Str.ofString "_buffer") (Str.ofString "_buffer") a7 (FuncBody.stmts b7) s7 3 [] Value.none Value.none Value.none (Value.str (Str.ofString "binascii") 508) none (Value.ref 181) Value.none 0)) (List.toArray []))) ::
  (nat_lit 183, (Obj.mk (Value.type "tuple") none (Data.seq (List.toArray []) 0) (List.toArray []))) ::
  (nat_lit 185, (Obj.mk (Value.type "tuple") none (Data.seq (List.toArray [(Value.str (Str.ofString "x") 521), (Value.str (Str.ofString "t") 522)]) 0) (List.toArray []))) ::
  (nat_lit 186, (Obj.mk (Value.type "tuple") none (Data.seq (List.toArray []) 0) (List.toArray []))) ::
  (nat_lit 188, (Obj.mk (Value.type "code") none (Data.fields (List.toArray [(Value.str (Str.ofString "_truth") 518), (Value.str (Str.ofString "_truth") 519), (Value.str (Str.ofString "/claim/cut.py") 520), (Value.int 91 0), (Value.int 1 0), (Value.int 0 0), (Value.int 0 0), (Value.int 3 0), (Value.ref 183), (Value.bool Bool.true), (Value.int 276 0), (Value.ref 184), Value.none, (Value.ref 185), (Value.ref 186), (Value.ref 187), (Value.int 523 0), (Value.int 91 0), (Value.str (Str.ofString "/claim/cut.py") 524)])) (List.toArray []))) ::
  (nat_lit 189, (Obj.mk (Value.type "function") none (Data.func (FuncData.mk (Str.ofString "_truth") (Str.ofString "_truth") a8 (FuncBody.stmts b8) s8 3 [] Value.none Value.none Value.none (Value.str (Str.ofString "binascii") 508) none (Value.ref 188) Value.none 0)) (List.toArray []))) ::
  (nat_lit 190, (Obj.mk (Value.type "dict") none (Data.dict (List.toArray [(DictEntry.mk (PyData.keyHash P (Str.ofString "newline")) (Value.str (Str.ofString "newline") 528) (Value.bool Bool.true))]) 1) (List.toArray []))) ::
  (nat_lit 191, (Obj.mk (Value.type "tuple") none (Data.seq (List.toArray []) 0) (List.toArray []))) ::
  (nat_lit 193, (Obj.mk (Value.type "tuple") none (Data.seq (List.toArray [(Value.str (Str.ofString "data") 532), (Value.str (Str.ofString "newline") 533), (Value.str (Str.ofString "bin_data") 534), (Value.str (Str.ofString "out") 535), (Value.str (Str.ofString "leftbits") 536), (Value.str (Str.ofString "leftchar") 537), (Value.str (Str.ofString "b") 538)]) 0) (List.toArray []))) ::
  (nat_lit 194, (Obj.mk (Value.type "tuple") none (Data.seq (List.toArray []) 0) (List.toArray []))) ::
  (nat_lit 196, (Obj.mk (Value.type "code") none (Data.fields (List.toArray [(Value.str (Str.ofString "b2a_base64") 529), (Value.str (Str.ofString "b2a_base64") 530), (Value.str (Str.ofString "/claim/cut.py") 531), (Value.int 97 0), (Value.int 1 0), (Value.int 1 0), (Value.int 1 0), (Value.int 3 0), (Value.ref 191), (Value.bool Bool.true), (Value.int 276 0), (Value.ref 192), Value.none, (Value.ref 193), (Value.ref 194), (Value.ref 195), (Value.int 539 0), (Value.int 97 0), (Value.str (Str.ofString "/claim/cut.py") 540)])) (List.toArray []))) ::
  (nat_lit 197, (Obj.mk (Value.type "function") none (Data.func (FuncData.mk (Str.ofString "b2a_base64") (Str.ofString "b2a_base64") a10 (FuncBody.stmts b10) s10 3 [] Value.none (Value.ref 190) Value.none (Value.str (Str.ofString "binascii") 508) none (Value.ref 196) Value.none 0)) (List.toArray []))) ::
  (nat_lit 198, (Obj.mk (Value.type "tuple") none (Data.seq (List.toArray [Value.none]) 0) (List.toArray []))) ::
  (nat_lit 199, (Obj.mk (Value.type "tuple") none (Data.seq (List.toArray []) 0) (List.toArray []))) ::
  (nat_lit 201, (Obj.mk (Value.type "tuple") none (Data.seq (List.toArray [(Value.str (Str.ofString "s") 547), (Value.str (Str.ofString "altchars") 548), (Value.str (Str.ofString "encoded") 549)]) 0) (List.toArray []))) ::
  (nat_lit 202, (Obj.mk (Value.type "tuple") none (Data.seq (List.toArray []) 0) (List.toArray []))) ::
  (nat_lit 204, (Obj.mk (Value.type "code") none (Data.fields (List.toArray [(Value.str (Str.ofString "b64encode") 544), (Value.str (Str.ofString "b64encode") 545), (Value.str (Str.ofString "/claim/cut.py") 546), (Value.int 120 0), (Value.int 2 0), (Value.int 0 0), (Value.int 0 0), (Value.int 3 0), (Value.ref 199), (Value.bool Bool.true), (Value.int 276 0), (Value.ref 200), Value.none, (Value.ref 201), (Value.ref 202), (Value.ref 203), (Value.int 550 0), (Value.int 120 0), (Value.str (Str.ofString "/claim/cut.py") 551)])) (List.toArray []))) ::
  (nat_lit 205, (Obj.mk (Value.type "function") none (Data.func (FuncData.mk (Str.ofString "b64encode") (Str.ofString "b64encode") a12 (FuncBody.stmts b12) s12 3 [] (Value.ref 198) Value.none Value.none (Value.str (Str.ofString "cpy313.base64") 542) none (Value.ref 204) Value.none 0)) (List.toArray []))) ::
  (nat_lit 206, (Obj.mk (Value.type "tuple") none (Data.seq (List.toArray []) 0) (List.toArray []))) ::
  (nat_lit 208, (Obj.mk (Value.type "tuple") none (Data.seq (List.toArray [(Value.str (Str.ofString "s") 561)]) 0) (List.toArray []))) ::
  (nat_lit 209, (Obj.mk (Value.type "tuple") none (Data.seq (List.toArray []) 0) (List.toArray []))) ::
  (nat_lit 211, (Obj.mk (Value.type "code") none (Data.fields (List.toArray [(Value.str (Str.ofString "urlsafe_b64encode") 558), (Value.str (Str.ofString "urlsafe_b64encode") 559), (Value.str (Str.ofString "/claim/cut.py") 560), (Value.int 127 0), (Value.int 1 0), (Value.int 0 0), (Value.int 0 0), (Value.int 3 0), (Value.ref 206), (Value.bool Bool.true), (Value.int 276 0), (Value.ref 207), Value.none, (Value.ref 208), (Value.ref 209), (Value.ref 210), (Value.int 562 0), (Value.int 127 0), (Value.str (Str.ofString "/claim/cut.py") 563)])) (List.toArray []))) ::
  (nat_lit 212, (Obj.mk (Value.type "function") none (Data.func (FuncData.mk (Str.ofString "urlsafe_b64encode") (Str.ofString "urlsafe_b64encode") a14 (FuncBody.stmts b14) s14 3 [] Value.none Value.none Value.none (Value.str (Str.ofString "cpy313.base64") 542) none (Value.ref 211) Value.none 0)) (List.toArray []))) ::
  (nat_lit 213, (Obj.mk (Value.type "tuple") none (Data.seq (List.toArray []) 0) (List.toArray []))) ::
  (nat_lit 215, (Obj.mk (Value.type "tuple") none (Data.seq (List.toArray [(Value.str (Str.ofString "x") 570), (Value.str (Str.ofString "what") 571), (Value.str (Str.ofString "kind") 572)]) 0) (List.toArray []))) ::
  (nat_lit 216, (Obj.mk (Value.type "tuple") none (Data.seq (List.toArray []) 0) (List.toArray []))) ::
  (nat_lit 218, (Obj.mk (Value.type "code") none (Data.fields (List.toArray [(Value.str (Str.ofString "_plain_name") 567), (Value.str (Str.ofString "_plain_name") 568), (Value.str (Str.ofString "/claim/cut.py") 569), (Value.int 130 0), (Value.int 2 0), (Value.int 0 0), (Value.int 0 0), (Value.int 3 0), (Value.ref 213), (Value.bool Bool.true), (Value.int 276 0), (Value.ref 214), Value.none, (Value.ref 215), (Value.ref 216), (Value.ref 217), (Value.int 573 0), (Value.int 130 0), (Value.str (Str.ofString "/claim/cut.py") 574)])) (List.toArray []))) ::
  (nat_lit 219, (Obj.mk (Value.type "function") none (Data.func (FuncData.mk (Str.ofString "_plain_name") (Str.ofString "_plain_name") a16 (FuncBody.stmts b16) s16 3 [] Value.none Value.none Value.none (Value.str (Str.ofString "os") 565) none (Value.ref 218) Value.none 0)) (List.toArray []))) ::
  (nat_lit 220, (Obj.mk (Value.type "tuple") none (Data.seq (List.toArray [(Value.type "type")]) 0) (List.toArray []))) ::
  (nat_lit 227, (Obj.mk (Value.type "tuple") none (Data.seq (List.toArray []) 0) (List.toArray []))) ::
  (nat_lit 229, (Obj.mk (Value.type "tuple") none (Data.seq (List.toArray [(Value.str (Str.ofString "cls") 593), (Value.str (Str.ofString "subclass") 594)]) 0) (List.toArray []))) ::
  (nat_lit 230, (Obj.mk (Value.type "tuple") none (Data.seq (List.toArray []) 0) (List.toArray []))) ::
  (nat_lit 232, (Obj.mk (Value.type "code") none (Data.fields (List.toArray [(Value.str (Str.ofString "register") 590), (Value.str (Str.ofString "ABCMeta.register") 591), (Value.str (Str.ofString "/claim/cut.py") 592), (Value.int 138 0), (Value.int 2 0), (Value.int 0 0), (Value.int 0 0), (Value.int 3 0), (Value.ref 227), (Value.bool Bool.true), (Value.int 276 0), (Value.ref 228), Value.none, (Value.ref 229), (Value.ref 230), (Value.ref 231), (Value.int 595 0), (Value.int 138 0), (Value.str (Str.ofString "/claim/cut.py") 596)])) (List.toArray []))) ::
  (nat_lit 233, (Obj.mk (Value.type "function") none (Data.func (FuncData.mk (Str.ofString "register") (Str.ofString "ABCMeta.register") a18_0 (FuncBody.stmts b18_0) s18_0 3 [] Value.none Value.none Value.none (Value.str (Str.ofString "abc") 576) none (Value.ref 232) Value.none 0)) (List.toArray []))) ::
  (nat_lit 234, (Obj.mk (Value.type "tuple") none (Data.seq (List.toArray []) 0) (List.toArray []))) ::
  (nat_lit 235, (Obj.mk (Value.type "dict") none (Data.dict (List.toArray [(DictEntry.mk (PyData.keyHash P (Str.ofString "__module__")) (Value.str (Str.ofString "__module__") 585) (Value.str (Str.ofString "abc") 576)), (DictEntry.mk (PyData.keyHash P (Str.ofString "__firstlineno__")) (Value.str (Str.ofString "__firstlineno__") 589) (Value.int 136 588)), (DictEntry.mk (PyData.keyHash P (Str.ofString "register")) (Value.str (Str.ofString "register") 597) (Value.ref 233)), (DictEntry.mk (PyData.keyHash P (Str.ofString "__static_attributes__")) (Value.str (Str.ofString "__static_attributes__") 598) (Value.ref 234)), (DictEntry.mk (PyData.keyHash P (Str.ofString "__doc__")) (Value.str (Str.ofString "__doc__") 599) Value.none)]) 2) (List.toArray []))) ::
  (nat_lit 236, (Obj.mk (Value.type "type") none (Data.cls (ClassData.mk (Str.ofString "ABCMeta") [(Value.type "type")] [(Value.ref 236), (Value.type "type"), (Value.type "object")] 235 (Str.ofString "ABCMeta") Bool.true [] [(Value.ref 269)] Bool.false none Bool.false)) (List.toArray [(some (Value.ref 220)), none, (some (Value.str (Str.ofString "ABCMeta") 578)), (some (Value.str (Str.ofString "ABCMeta") 586)), (some (Value.builtin "type.__new__")), (some (Value.bool Bool.true))]))) ::
  (nat_lit 239, (Obj.mk (Value.type "tuple") none (Data.seq (List.toArray [(Value.ref 236)]) 0) (List.toArray []))) ::
  (nat_lit 246, (Obj.mk (Value.type "tuple") none (Data.seq (List.toArray []) 0) (List.toArray []))) ::
  (nat_lit 248, (Obj.mk (Value.type "tuple") none (Data.seq (List.toArray [(Value.str (Str.ofString "cls") 619), (Value.str (Str.ofString "\x69nstance") 620), (Value.str (Str.ofString "C") 621)]) 0) (List.toArray []))) ::
  (nat_lit 249, (Obj.mk (Value.type "tuple") none (Data.seq (List.toArray []) 0) (List.toArray []))) ::
  (nat_lit 251, (Obj.mk (Value.type "code") none (Data.fields (List.toArray [(Value.str (Str.ofString "__instancecheck__") 616), (Value.str (Str.ofString "_ABCLike.__instancecheck__") 617), (Value.str (Str.ofString "/claim/cut.py") 618), (Value.int 143 0), (Value.int 2 0), (Value.int 0 0), (Value.int 0 0), (Value.int 3 0), (Value.ref 246), (Value.bool Bool.true), (Value.int 276 0), (Value.ref 247), Value.none, (Value.ref 248), (Value.ref 249), (Value.ref 250), (Value.int 622 0), (Value.int 143 0), (Value.str (Str.ofString "/claim/cut.py") 623)])) (List.toArray []))) ::
  (nat_lit 252, (Obj.mk (Value.type "function") none (Data.func (FuncData.mk (Str.ofString "__instancecheck__") (Str.ofString "_ABCLike.__instancecheck__") a20_0 (FuncBody.stmts b20_0) s20_0 3 [] Value.none Value.none Value.none (Value.str (Str.ofString "collections.abc") 602) none (Value.ref 251) Value.none 0)) (List.toArray []))) ::
  (nat_lit 253, (Obj.mk (Value.type "tuple") none (Data.seq (List.toArray []) 0) (List.toArray []))) ::
  (nat_lit 255, (Obj.mk (Value.type "tuple") none (Data.seq (List.toArray [(Value.str (Str.ofString "cls") 628), (Value.str (Str.ofString "C") 629)]) 0) (List.toArray []))) ::
  (nat_lit 256, (Obj.mk (Value.type "tuple") none (Data.seq (List.toArray []) 0) (List.toArray []))) ::
  (nat_lit 258, (Obj.mk (Value.type "code") none (Data.fields (List.toArray [(Value.str (Str.ofString "__subclasscheck__") 625), (Value.str (Str.ofString "_ABCLike.__subclasscheck__") 626), (Value.str (Str.ofString "/claim/cut.py") 627), (Value.int 149 0), (Value.int 2 0), (Value.int 0 0), (Value.int 0 0), (Value.int 3 0), (Value.ref 253), (Value.bool Bool.true), (Value.int 276 0), (Value.ref 254), Value.none, (Value.ref 255), (Value.ref 256), (Value.ref 257), (Value.int 630 0), (Value.int 149 0), (Value.str (Str.ofString "/claim/cut.py") 631)])) (List.toArray []))) ::
  (nat_lit 259, (Obj.mk (Value.type "function") none (Data.func (FuncData.mk (Str.ofString "__subclasscheck__") (Str.ofString "_ABCLike.__subclasscheck__") a20_1 (FuncBody.stmts b20_1) s20_1 3 [] Value.none Value.none Value.none (Value.str (Str.ofString "collections.abc") 602) none (Value.ref 258) Value.none 0)) (List.toArray []))) ::
  (nat_lit 260, (Obj.mk (Value.type "tuple") none (Data.seq (List.toArray []) 0) (List.toArray []))) ::
  (nat_lit 262, (Obj.mk (Value.type "tuple") none (Data.seq (List.toArray [(Value.str (Str.ofString "cls") 636), (Value.str (Str.ofString "subclass") 637)]) 0) (List.toArray []))) ::
  (nat_lit 263, (Obj.mk (Value.type "tuple") none (Data.seq (List.toArray []) 0) (List.toArray []))) ::
  (nat_lit 265, (Obj.mk (Value.type "code") none (Data.fields (List.toArray [(Value.str (Str.ofString "register") 633), (Value.str (Str.ofString "_ABCLike.register") 634), (Value.str (Str.ofString "/claim/cut.py") 635), (Value.int 154 0), (Value.int 2 0), (Value.int 0 0), (Value.int 0 0), (Value.int 3 0), (Value.ref 260), (Value.bool Bool.true), (Value.int 276 0), (Value.ref 261), Value.none, (Value.ref 262), (Value.ref 263), (Value.ref 264), (Value.int 638 0), (Value.int 154 0), (Value.str (Str.ofString "/claim/cut.py") 639)])) (List.toArray []))) ::
  (nat_lit 266, (Obj.mk (Value.type "function") none (Data.func (FuncData.mk (Str.ofString "register") (Str.ofString "_ABCLike.register") a20_2 (FuncBody.stmts b20_2) s20_2 3 [] Value.none Value.none Value.none (Value.str (Str.ofString "collections.abc") 602) none (Value.ref 265) Value.none 0)) (List.toArray []))) ::
  (nat_lit 267, (Obj.mk (Value.type "tuple") none (Data.seq (List.toArray []) 0) (List.toArray []))) ::
  (nat_lit 268, (Obj.mk (Value.type "dict") none (Data.dict (List.toArray [(DictEntry.mk (PyData.keyHash P (Str.ofString "__module__")) (Value.str (Str.ofString "__module__") 611) (Value.str (Str.ofString "collections.abc") 602)), (DictEntry.mk (PyData.keyHash P (Str.ofString "__firstlineno__")) (Value.str (Str.ofString "__firstlineno__") 615) (Value.int 141 614)), (DictEntry.mk (PyData.keyHash P (Str.ofString "__instancecheck__")) (Value.str (Str.ofString "__instancecheck__") 624) (Value.ref 252)), (DictEntry.mk (PyData.keyHash P (Str.ofString "__subclasscheck__")) (Value.str (Str.ofString "__subclasscheck__") 632) (Value.ref 259)), (DictEntry.mk (PyData.keyHash P (Str.ofString "register")) (Value.str (Str.ofString "register") 640) (Value.ref 266)), (DictEntry.mk (PyData.keyHash P (Str.ofString "__static_attributes__")) (Value.str (Str.ofString "__static_attributes__") 641) (Value.ref 267)), (DictEntry.mk (PyData.keyHash P (Str.ofString "__doc__")) (Value.str (Str.ofString "__doc__") 642) Value.none)]) 2) (List.toArray []))) ::
  (nat_lit 269, (Obj.mk (Value.type "type") none (Data.cls (ClassData.mk (Str.ofString "_ABCLike") [(Value.ref 236)] [(Value.ref 269), (Value.ref 236), (Value.type "type"), (Value.type "object")] 268 (Str.ofString "_ABCLike") Bool.true [] [] Bool.false none Bool.false)) (List.toArray [(some (Value.ref 239)), none, (some (Value.str (Str.ofString "_ABCLike") 604)), (some (Value.str (Str.ofString "_ABCLike") 612)), (some (Value.builtin "type.__new__")), (some (Value.bool Bool.true))]))) ::
  (nat_lit 272, (Obj.mk (Value.type "tuple") none (Data.seq (List.toArray []) 0) (List.toArray []))) ::
  (nat_lit 274, (Obj.mk (Value.type "tuple") none (Data.seq (List.toArray [(Value.str (Str.ofString "C") 648)]) 0) (List.toArray []))) ::
  (nat_lit 275, (Obj.mk (Value.type "tuple") none (Data.seq (List.toArray []) 0) (List.toArray []))) ::
  (nat_lit 277, (Obj.mk (Value.type "code") none (Data.fields (List.toArray [(Value.str (Str.ofString "_abc_plain_meta") 645), (Value.str (Str.ofString "_abc_plain_meta") 646), (Value.str (Str.ofString "/claim/cut.py") 647), (Value.int 156 0), (Value.int 1 0), (Value.int 0 0), (Value.int 0 0), (Value.int 3 0), (Value.ref 272), (Value.bool Bool.true), (Value.int 276 0), (Value.ref 273), Value.none, (Value.ref 274), (Value.ref 275), (Value.ref 276), (Value.int 649 0), (Value.int 156 0), (Value.str (Str.ofString "/claim/cut.py") 650)])) (List.toArray []))) ::
  (nat_lit 278, (Obj.mk (Value.type "function") none (Data.func (FuncData.mk (Str.ofString "_abc_plain_meta") (Str.ofString "_abc_plain_meta") a21 (FuncBody.stmts b21) s21 3 [] Value.none Value.none Value.none (Value.str (Str.ofString "collections.abc") 602) none (Value.ref 277) Value.none 0)) (List.toArray []))) ::
  (nat_lit 279, (Obj.mk (Value.type "tuple") none (Data.seq (List.toArray []) 0) (List.toArray []))) ::
  (nat_lit 281, (Obj.mk (Value.type "tuple") none (Data.seq (List.toArray [(Value.str (Str.ofString "path") 657), (Value.str (Str.ofString "kind") 658), (Value.str (Str.ofString "hook") 659), (Value.str (Str.ofString "given") 660)]) 0) (List.toArray []))) ::
  (nat_lit 282, (Obj.mk (Value.type "tuple") none (Data.seq (List.toArray []) 0) (List.toArray []))) ::
  (nat_lit 284, (Obj.mk (Value.type "code") none (Data.fields (List.toArray [(Value.str (Str.ofString "fspath") 654), (Value.str (Str.ofString "fspath") 655), (Value.str (Str.ofString "/claim/cut.py") 656), (Value.int 160 0), (Value.int 1 0), (Value.int 0 0), (Value.int 0 0), (Value.int 3 0), (Value.ref 279), (Value.bool Bool.true), (Value.int 276 0), (Value.ref 280), Value.none, (Value.ref 281), (Value.ref 282), (Value.ref 283), (Value.int 661 0), (Value.int 160 0), (Value.str (Str.ofString "/claim/cut.py") 662)])) (List.toArray []))) ::
  (nat_lit 285, (Obj.mk (Value.type "function") none (Data.func (FuncData.mk (Str.ofString "fspath") (Str.ofString "fspath") a23 (FuncBody.stmts b23) s23 3 [] Value.none Value.none Value.none (Value.str (Str.ofString "os") 652) none (Value.ref 284) Value.none 0)) (List.toArray []))) ::
  (nat_lit 286, (Obj.mk (Value.type "tuple") none (Data.seq (List.toArray []) 0) (List.toArray []))) ::
  (nat_lit 288, (Obj.mk (Value.type "tuple") none (Data.seq (List.toArray [(Value.str (Str.ofString "funcname") 669), (Value.str (Str.ofString "args") 670), (Value.str (Str.ofString "hasstr") 671), (Value.str (Str.ofString "hasbytes") 672), (Value.str (Str.ofString "s") 673)]) 0) (List.toArray []))) ::
  (nat_lit 289, (Obj.mk (Value.type "tuple") none (Data.seq (List.toArray []) 0) (List.toArray []))) ::
  (nat_lit 291, (Obj.mk (Value.type "code") none (Data.fields (List.toArray [(Value.str (Str.ofString "_check_arg_types") 666), (Value.str (Str.ofString "_check_arg_types") 667), (Value.str (Str.ofString "/claim/cut.py") 668), (Value.int 177 0), (Value.int 1 0), (Value.int 0 0), (Value.int 0 0), (Value.int 7 0), (Value.ref 286), (Value.bool Bool.true), (Value.int 276 0), (Value.ref 287), Value.none, (Value.ref 288), (Value.ref 289), (Value.ref 290), (Value.int 674 0), (Value.int 177 0), (Value.str (Str.ofString "/claim/cut.py") 675)])) (List.toArray []))) ::
  (nat_lit 292, (Obj.mk (Value.type "function") none (Data.func (FuncData.mk (Str.ofString "_check_arg_types") (Str.ofString "_check_arg_types") a25 (FuncBody.stmts b25) s25 3 [] Value.none Value.none Value.none (Value.str (Str.ofString "cpy313.genericpath") 664) none (Value.ref 291) Value.none 0)) (List.toArray []))) ::
  (nat_lit 293, (Obj.mk (Value.type "tuple") none (Data.seq (List.toArray []) 0) (List.toArray []))) ::
  (nat_lit 295, (Obj.mk (Value.type "tuple") none (Data.seq (List.toArray [(Value.str (Str.ofString "path") 682)]) 0) (List.toArray []))) ::
  (nat_lit 296, (Obj.mk (Value.type "tuple") none (Data.seq (List.toArray []) 0) (List.toArray []))) ::
  (nat_lit 298, (Obj.mk (Value.type "code") none (Data.fields (List.toArray [(Value.str (Str.ofString "_get_sep") 679), (Value.str (Str.ofString "_get_sep") 680), (Value.str (Str.ofString "/claim/cut.py") 681), (Value.int 189 0), (Value.int 1 0), (Value.int 0 0), (Value.int 0 0), (Value.int 3 0), (Value.ref 293), (Value.bool Bool.true), (Value.int 276 0), (Value.ref 294), Value.none, (Value.ref 295), (Value.ref 296), (Value.ref 297), (Value.int 683 0), (Value.int 189 0), (Value.str (Str.ofString "/claim/cut.py") 684)])) (List.toArray []))) ::
  (nat_lit 299, (Obj.mk (Value.type "function") none (Data.func (FuncData.mk (Str.ofString "_get_sep") (Str.ofString "_get_sep") a27 (FuncBody.stmts b27) s27 3 [] Value.none Value.none Value.none (Value.str (Str.ofString "cpy313.posixpath") 677) none (Value.ref 298) Value.none 0)) (List.toArray []))) ::
  (nat_lit 300, (Obj.mk (Value.type "tuple") none (Data.seq (List.toArray []) 0) (List.toArray []))) ::
  (nat_lit 302, (Obj.mk (Value.type "tuple") none (Data.seq (List.toArray [(Value.str (Str.ofString "a") 689), (Value.str (Str.ofString "p") 690), (Value.str (Str.ofString "sep") 691), (Value.str (Str.ofString "path") 692), (Value.str (Str.ofString "b") 693)]) 0) (List.toArray []))) ::
  (nat_lit 303, (Obj.mk (Value.type "tuple") none (Data.seq (List.toArray []) 0) (List.toArray []))) ::
  (nat_lit 305, (Obj.mk (Value.type "code") none (Data.fields (List.toArray [(Value.str (Str.ofString "join") 686), (Value.str (Str.ofString "join") 687), (Value.str (Str.ofString "/claim/cut.py") 688), (Value.int 194 0), (Value.int 1 0), (Value.int 0 0), (Value.int 0 0), (Value.int 7 0), (Value.ref 300), (Value.bool Bool.true), (Value.int 276 0), (Value.ref 301), Value.none, (Value.ref 302), (Value.ref 303), (Value.ref 304), (Value.int 694 0), (Value.int 194 0), (Value.str (Str.ofString "/claim/cut.py") 695)])) (List.toArray []))) ::
  (nat_lit 306, (Obj.mk (Value.type "function") none (Data.func (FuncData.mk (Str.ofString "join") (Str.ofString "join") a28 (FuncBody.stmts b28) s28 3 [] Value.none Value.none Value.none (Value.str (Str.ofString "cpy313.posixpath") 677) none (Value.ref 305) Value.none 0)) (List.toArray []))) ::
  (nat_lit 307, (Obj.mk (Value.type "tuple") none (Data.seq (List.toArray []) 0) (List.toArray []))) ::
  (nat_lit 309, (Obj.mk (Value.type "tuple") none (Data.seq (List.toArray [(Value.str (Str.ofString "p") 700), (Value.str (Str.ofString "sep") 701), (Value.str (Str.ofString "i") 702), (Value.str (Str.ofString "head") 703), (Value.str (Str.ofString "tail") 704)]) 0) (List.toArray []))) ::
  (nat_lit 310, (Obj.mk (Value.type "tuple") none (Data.seq (List.toArray []) 0) (List.toArray []))) ::
  (nat_lit 312, (Obj.mk (Value.type "code") none (Data.fields (List.toArray [(Value.str (Str.ofString "split") 697), (Value.str (Str.ofString "split") 698), (Value.str (Str.ofString "/claim/cut.py") 699), (Value.int 211 0), (Value.int 1 0), (Value.int 0 0), (Value.int 0 0), (Value.int 3 0), (Value.ref 307), (Value.bool Bool.true), (Value.int 276 0), (Value.ref 308), Value.none, (Value.ref 309), (Value.ref 310), (Value.ref 311), (Value.int 705 0), (Value.int 211 0), (Value.str (Str.ofString "/claim/cut.py") 706)])) (List.toArray []))) ::
  (nat_lit 313, (Obj.mk (Value.type "function") none (Data.func (FuncData.mk (Str.ofString "split") (Str.ofString "split") a29 (FuncBody.stmts b29) s29 3 [] Value.none Value.none Value.none (Value.str (Str.ofString "cpy313.posixpath") 677) none (Value.ref 312) Value.none 0)) (List.toArray []))) ::
  (nat_lit 314, (Obj.mk (Value.type "tuple") none (Data.seq (List.toArray []) 0) (List.toArray []))) ::
  (nat_lit 317, (Obj.mk (Value.type "code") none (Data.fields (List.toArray [(Value.str (Str.ofString "_law_written") 710), (Value.str (Str.ofString "_law_written") 711), (Value.str (Str.ofString "/claim/cut.py") 712), (Value.int 220 0), (Value.int 1 0), (Value.int 0 0), (Value.int 0 0), (Value.int 3 0), (Value.ref 314), (Value.bool Bool.true), (Value.int 276 0), (Value.ref 315), Value.none, Value.none, Value.none, (Value.ref 316), (Value.int 713 0), (Value.int 220 0), (Value.str (Str.ofString "/claim/cut.py") 714)])) (List.toArray []))) ::
  (nat_lit 318, (Obj.mk (Value.type "function") none (Data.func (FuncData.mk (Str.ofString "_law_written") (Str.ofString "_law_written") a31 (FuncBody.stmts b31) s31 3 [] Value.none Value.none Value.none (Value.str (Str.ofString "law_rt0088_01") 708) none (Value.ref 317) Value.none 0)) (List.toArray []))) ::
  (nat_lit 319, (Obj.mk (Value.type "tuple") none (Data.seq (List.toArray []) 0) (List.toArray []))) ::
  (nat_lit 321, (Obj.mk (Value.type "tuple") none (Data.seq (List.toArray [(Value.str (Str.ofString "table") 719), (Value.str (Str.ofString "node") 720), (Value.str (Str.ofString "sign") 721)]) 0) (List.toArray []))) ::
  (nat_lit 322, (Obj.mk (Value.type "tuple") none (Data.seq (List.toArray []) 0) (List.toArray []))) ::
  (nat_lit 324, (Obj.mk (Value.type "code") none (Data.fields (List.toArray [(Value.str (Str.ofString "_law_step") 716), (Value.str (Str.ofString "_law_step") 717), (Value.str (Str.ofString "/claim/cut.py") 718), (Value.int 227 0), (Value.int 3 0), (Value.int 0 0), (Value.int 0 0), (Value.int 3 0), (Value.ref 319), (Value.bool Bool.true), (Value.int 276 0), (Value.ref 320), Value.none, (Value.ref 321), (Value.ref 322), (Value.ref 323), (Value.int 722 0), (Value.int 227 0), (Value.str (Str.ofString "/claim/cut.py") 723)])) (List.toArray []))) ::
  (nat_lit 325, (Obj.mk (Value.type "function") none (Data.func (FuncData.mk (Str.ofString "_law_step") (Str.ofString "_law_step") a32 (FuncBody.stmts b32) s32 3 [] Value.none Value.none Value.none (Value.str (Str.ofString "law_rt0088_01") 708) none (Value.ref 324) Value.none 0)) (List.toArray []))) ::
  (nat_lit 326, (Obj.mk (Value.type "tuple") none (Data.seq (List.toArray []) 0) (List.toArray []))) ::
  (nat_lit 328, (Obj.mk (Value.type "tuple") none (Data.seq (List.toArray [(Value.str (Str.ofString "words") 728), (Value.str (Str.ofString "table") 729), (Value.str (Str.ofString "told") 730), (Value.str (Str.ofString "word") 731), (Value.str (Str.ofString "node") 732), (Value.str (Str.ofString "size") 733), (Value.str (Str.ofString "above") 734), (Value.str (Str.ofString "sign") 735)]) 0) (List.toArray []))) ::
  (nat_lit 329, (Obj.mk (Value.type "tuple") none (Data.seq (List.toArray []) 0) (List.toArray []))) ::
  (nat_lit 331, (Obj.mk (Value.type "code") none (Data.fields (List.toArray [(Value.str (Str.ofString "_law_tree") 725), (Value.str (Str.ofString "_law_tree") 726), (Value.str (Str.ofString "/claim/cut.py") 727), (Value.int 231 0), (Value.int 1 0), (Value.int 0 0), (Value.int 0 0), (Value.int 3 0), (Value.ref 326), (Value.bool Bool.true), (Value.int 276 0), (Value.ref 327), Value.none, (Value.ref 328), (Value.ref 329), (Value.ref 330), (Value.int 736 0), (Value.int 231 0), (Value.str (Str.ofString "/claim/cut.py") 737)])) (List.toArray []))) ::
  (nat_lit 332, (Obj.mk (Value.type "function") none (Data.func (FuncData.mk (Str.ofString "_law_tree") (Str.ofString "_law_tree") a33 (FuncBody.stmts b33) s33 3 [] Value.none Value.none Value.none (Value.str (Str.ofString "law_rt0088_01") 708) none (Value.ref 331) Value.none 0)) (List.toArray []))) ::
  (nat_lit 333, (Obj.mk (Value.type "tuple") none (Data.seq (List.toArray []) 0) (List.toArray []))) ::
  (nat_lit 336, (Obj.mk (Value.type "code") none (Data.fields (List.toArray [(Value.str (Str.ofString "_law_left") 739), (Value.str (Str.ofString "_law_left") 740), (Value.str (Str.ofString "/claim/cut.py") 741), (Value.int 242 0), (Value.int 1 0), (Value.int 0 0), (Value.int 0 0), (Value.int 3 0), (Value.ref 333), (Value.bool Bool.true), (Value.int 276 0), (Value.ref 334), Value.none, Value.none, Value.none, (Value.ref 335), (Value.int 742 0), (Value.int 242 0), (Value.str (Str.ofString "/claim/cut.py") 743)])) (List.toArray []))) ::
  (nat_lit 337, (Obj.mk (Value.type "function") none (Data.func (FuncData.mk (Str.ofString "_law_left") (Str.ofString "_law_left") a34 (FuncBody.stmts b34) s34 3 [] Value.none Value.none Value.none (Value.str (Str.ofString "law_rt0088_01") 708) none (Value.ref 336) Value.none 0)) (List.toArray []))) ::
  (nat_lit 338, (Obj.mk (Value.type "tuple") none (Data.seq (List.toArray []) 0) (List.toArray []))) ::
  (nat_lit 340, (Obj.mk (Value.type "tuple") none (Data.seq (List.toArray [(Value.str (Str.ofString "words") 748), (Value.str (Str.ofString "fronts") 749), (Value.str (Str.ofString "small") 750), (Value.str (Str.ofString "size") 751), (Value.str (Str.ofString "word") 752)]) 0) (List.toArray []))) ::
  (nat_lit 341, (Obj.mk (Value.type "tuple") none (Data.seq (List.toArray []) 0) (List.toArray []))) ::
  (nat_lit 343, (Obj.mk (Value.type "code") none (Data.fields (List.toArray [(Value.str (Str.ofString "_law_fronts") 745), (Value.str (Str.ofString "_law_fronts") 746), (Value.str (Str.ofString "/claim/cut.py") 747), (Value.int 248 0), (Value.int 1 0), (Value.int 0 0), (Value.int 0 0), (Value.int 3 0), (Value.ref 338), (Value.bool Bool.true), (Value.int 276 0), (Value.ref 339), Value.none, (Value.ref 340), (Value.ref 341), (Value.ref 342), (Value.int 753 0), (Value.int 248 0), (Value.str (Str.ofString "/claim/cut.py") 754)])) (List.toArray []))) ::
  (nat_lit 344, (Obj.mk (Value.type "function") none (Data.func (FuncData.mk (Str.ofString "_law_fronts") (Str.ofString "_law_fronts") a35 (FuncBody.stmts b35) s35 3 [] Value.none Value.none Value.none (Value.str (Str.ofString "law_rt0088_01") 708) none (Value.ref 343) Value.none 0)) (List.toArray []))) ::
  (nat_lit 345, (Obj.mk (Value.type "tuple") none (Data.seq (List.toArray []) 0) (List.toArray []))) ::
  (nat_lit 348, (Obj.mk (Value.type "code") none (Data.fields (List.toArray [(Value.str (Str.ofString "_law_ends") 756), (Value.str (Str.ofString "_law_ends") 757), (Value.str (Str.ofString "/claim/cut.py") 758), (Value.int 256 0), (Value.int 2 0), (Value.int 0 0), (Value.int 0 0), (Value.int 3 0), (Value.ref 345), (Value.bool Bool.true), (Value.int 276 0), (Value.ref 346), Value.none, Value.none, Value.none, (Value.ref 347), (Value.int 759 0), (Value.int 256 0), (Value.str (Str.ofString "/claim/cut.py") 760)])) (List.toArray []))) ::
  (nat_lit 349, (Obj.mk (Value.type "function") none (Data.func (FuncData.mk (Str.ofString "_law_ends") (Str.ofString "_law_ends") a36 (FuncBody.stmts b36) s36 3 [] Value.none Value.none Value.none (Value.str (Str.ofString "law_rt0088_01") 708) none (Value.ref 348) Value.none 0)) (List.toArray []))) ::
  (nat_lit 350, (Obj.mk (Value.type "tuple") none (Data.seq (List.toArray []) 0) (List.toArray []))) ::
  (nat_lit 353, (Obj.mk (Value.type "code") none (Data.fields (List.toArray [(Value.str (Str.ofString "_law_run") 762), (Value.str (Str.ofString "_law_run") 763), (Value.str (Str.ofString "/claim/cut.py") 764), (Value.int 259 0), (Value.int 1 0), (Value.int 0 0), (Value.int 0 0), (Value.int 3 0), (Value.ref 350), (Value.bool Bool.true), (Value.int 276 0), (Value.ref 351), Value.none, Value.none, Value.none, (Value.ref 352), (Value.int 765 0), (Value.int 259 0), (Value.str (Str.ofString "/claim/cut.py") 766)])) (List.toArray []))) ::
  (nat_lit 354, (Obj.mk (Value.type "function") none (Data.func (FuncData.mk (Str.ofString "_law_run") (Str.ofString "_law_run") a37 (FuncBody.stmts b37) s37 3 [] Value.none Value.none Value.none (Value.str (Str.ofString "law_rt0088_01") 708) none (Value.ref 353) Value.none 0)) (List.toArray []))) ::
  (nat_lit 355, (Obj.mk (Value.type "tuple") none (Data.seq (List.toArray []) 0) (List.toArray []))) ::
  (nat_lit 358, (Obj.mk (Value.type "code") none (Data.fields (List.toArray [(Value.str (Str.ofString "law") 768), (Value.str (Str.ofString "law") 769), (Value.str (Str.ofString "/claim/cut.py") 770), (Value.int 280 0), (Value.int 1 0), (Value.int 0 0), (Value.int 0 0), (Value.int 3 0), (Value.ref 355), (Value.bool Bool.true), (Value.int 276 0), (Value.ref 356), Value.none, Value.none, Value.none, (Value.ref 357), (Value.int 771 0), (Value.int 280 0), (Value.str (Str.ofString "/claim/cut.py") 772)])) (List.toArray []))) ::
  (nat_lit 359, (Obj.mk (Value.type "function") none (Data.func (FuncData.mk (Str.ofString "law") (Str.ofString "law") a38 (FuncBody.stmts b38) s38 3 [] Value.none Value.none Value.none (Value.str (Str.ofString "law_rt0088_01") 708) none (Value.ref 358) Value.none 0)) (List.toArray []))) :: []) → Params → Frag) _ ?h
  case F => exact fun x _ => x
  case h =>
    delta b1 a1 s1 b5_0 a5_0 s5_0 b5_1 a5_1 s5_1 b5_2 a5_2 s5_2 b5_3 a5_3 s5_3 b5_4 a5_4 s5_4 b5_5 a5_5 s5_5 b5_6 a5_6 s5_6 b5_7 a5_7 s5_7 b5_8 a5_8 s5_8 b5_9 a5_9 s5_9 b5_10 a5_10 s5_10 b5_11 a5_11 s5_11 b5_12 a5_12 s5_12 b5_13 a5_13 s5_13 b5_14 a5_14 s5_14 b5_15 a5_15 s5_15 b5_16 a5_16 s5_16 b7 a7 s7 b8 a8 s8 b10 a10 s10 b12 a12 s12 b14 a14 s14 b16 a16 s16 b18_0 a18_0 s18_0 b20_0 a20_0 s20_0 b20_1 a20_1 s20_1 b20_2 a20_2 s20_2 b21 a21 s21 b23 a23 s23 b25 a25 s25 b27 a27 s27 b28 a28 s28 b29 a29 s29 b31 a31 s31 b32 a32 s32 b33 a33 s33 b34 a34 s34 b35 a35 s35 b36 a36 s36 b37 a37 s37 b38 a38 s38
    exact rfl
noncomputable def v0 : Stmt := by
  refine' (?F : (x : Stmt) → x = headOf (stm 0) → Stmt) _ ?h
  walk_at "lit"
noncomputable def v1 : Stmt := by
  refine' (?F : (x : Stmt) → x = headOf (stm 1) → Stmt) _ ?h
  walk_at "lit"
noncomputable def v3 : Stmt := by
  refine' (?F : (x : Stmt) → x = headOf (stm 3) → Stmt) _ ?h
  walk_at "lit"
noncomputable def v4 : Stmt := by
  refine' (?F : (x : Stmt) → x = headOf (stm 4) → Stmt) _ ?h
  walk_at "lit"
noncomputable def v5 : Stmt := by
  refine' (?F : (x : Stmt) → x = headOf (stm 5) → Stmt) _ ?h
  walk_at "lit"
noncomputable def v7 : Stmt := by
  refine' (?F : (x : Stmt) → x = headOf (stm 7) → Stmt) _ ?h
  walk_at "lit"
noncomputable def v8 : Stmt := by
  refine' (?F : (x : Stmt) → x = headOf (stm 8) → Stmt) _ ?h
  walk_at "lit"
noncomputable def v9 : Stmt := by
  refine' (?F : (x : Stmt) → x = headOf (stm 9) → Stmt) _ ?h
  walk_at "lit"
noncomputable def v13 : Stmt := by
  refine' (?F : (x : Stmt) → x = headOf (stm 13) → Stmt) _ ?h
  walk_at "lit"
noncomputable def v14 : Stmt := by
  refine' (?F : (x : Stmt) → x = headOf (stm 14) → Stmt) _ ?h
  walk_at "lit"
noncomputable def v16 : Stmt := by
  refine' (?F : (x : Stmt) → x = headOf (stm 16) → Stmt) _ ?h
  walk_at "lit"
noncomputable def v18 : Stmt := by
  refine' (?F : (x : Stmt) → x = headOf (stm 18) → Stmt) _ ?h
  walk_at "lit"
noncomputable def v20 : Stmt := by
  refine' (?F : (x : Stmt) → x = headOf (stm 20) → Stmt) _ ?h
  walk_at "lit"
noncomputable def v21 : Stmt := by
  refine' (?F : (x : Stmt) → x = headOf (stm 21) → Stmt) _ ?h
  walk_at "lit"
noncomputable def v23 : Stmt := by
  refine' (?F : (x : Stmt) → x = headOf (stm 23) → Stmt) _ ?h
  walk_at "lit"
noncomputable def v25 : Stmt := by
  refine' (?F : (x : Stmt) → x = headOf (stm 25) → Stmt) _ ?h
  walk_at "lit"
noncomputable def v27 : Stmt := by
  refine' (?F : (x : Stmt) → x = headOf (stm 27) → Stmt) _ ?h
  walk_at "lit"
noncomputable def v28 : Stmt := by
  refine' (?F : (x : Stmt) → x = headOf (stm 28) → Stmt) _ ?h
  walk_at "lit"
noncomputable def v29 : Stmt := by
  refine' (?F : (x : Stmt) → x = headOf (stm 29) → Stmt) _ ?h
  walk_at "lit"
noncomputable def v31 : Stmt := by
  refine' (?F : (x : Stmt) → x = headOf (stm 31) → Stmt) _ ?h
  walk_at "lit"
noncomputable def v32 : Stmt := by
  refine' (?F : (x : Stmt) → x = headOf (stm 32) → Stmt) _ ?h
  walk_at "lit"
noncomputable def v33 : Stmt := by
  refine' (?F : (x : Stmt) → x = headOf (stm 33) → Stmt) _ ?h
  walk_at "lit"
noncomputable def v34 : Stmt := by
  refine' (?F : (x : Stmt) → x = headOf (stm 34) → Stmt) _ ?h
  walk_at "lit"
noncomputable def v35 : Stmt := by
  refine' (?F : (x : Stmt) → x = headOf (stm 35) → Stmt) _ ?h
  walk_at "lit"
noncomputable def v36 : Stmt := by
  refine' (?F : (x : Stmt) → x = headOf (stm 36) → Stmt) _ ?h
  walk_at "lit"
noncomputable def v37 : Stmt := by
  refine' (?F : (x : Stmt) → x = headOf (stm 37) → Stmt) _ ?h
  walk_at "lit"
noncomputable def v38 : Stmt := by
  refine' (?F : (x : Stmt) → x = headOf (stm 38) → Stmt) _ ?h
  walk_at "lit"
noncomputable def view_39 : Program := by
  refine' (?F : (x : Program) → x = { PySem.Challenge.rw_rt0088_01.row.toRowW.prog with main := { PySem.Challenge.rw_rt0088_01.row.toRowW.prog.main with body := [v0, v1, v3, v4, v5, v7, v8, v9, v13, v14, v16, v18, v20, v21, v23, v25, v27, v28, v29, v31, v32, v33, v34, v35, v36, v37, v38] } } → Program) _ ?h
  case F => exact fun x _ => x
  case h =>
    delta v0 v1 v3 v4 v5 v7 v8 v9 v13 v14 v16 v18 v20 v21 v23 v25 v27 v28 v29 v31 v32 v33 v34 v35 v36 v37 v38
    exact rfl
noncomputable abbrev loose_39 : List PySem.Str := [Str.ofString "_name_disallowed_re", Str.ofString "_value_disallowed_re", Str.ofString "b2a_base64", Str.ofString "b64encode", Str.ofString "_urlsafe_encode_translation"]
noncomputable abbrev lv_39 : List (PySem.Str × WData) := [(Str.ofString "_urlsafe_encode_translation", WData.bytes (0 :: 1 :: 2 :: 3 :: 4 :: 5 :: 6 :: 7 :: 8 :: 9 :: 10 :: 11 :: 12 :: 13 :: 14 :: 15 :: 16 :: 17 :: 18 :: 19 :: 20 :: 21 :: 22 :: 23 :: 24 :: 25 :: 26 :: 27 :: 28 :: 29 :: 30 :: 31 :: 32 :: 33 :: 34 :: 35 :: 36 :: 37 :: 38 :: 39 :: 40 :: 41 :: 42 :: 45 :: 44 :: 45 :: 46 :: 95 :: 48 :: 49 :: 50 :: 51 :: 52 :: 53 :: 54 :: 55 :: 56 :: 57 :: 58 :: 59 :: 60 :: 61 :: 62 :: 63 :: 64 :: 65 :: 66 :: 67 :: 68 :: 69 :: 70 :: 71 :: 72 :: 73 :: 74 :: 75 :: 76 :: 77 :: 78 :: 79 :: 80 :: 81 :: 82 :: 83 :: 84 :: 85 :: 86 :: 87 :: 88 :: 89 :: 90 :: 91 :: 92 :: 93 :: 94 :: 95 :: 96 :: 97 :: 98 :: 99 :: 100 :: 101 :: 102 :: 103 :: 104 :: 105 :: 106 :: 107 :: 108 :: 109 :: 110 :: 111 :: 112 :: 113 :: 114 :: 115 :: 116 :: 117 :: 118 :: 119 :: 120 :: 121 :: 122 :: 123 :: 124 :: 125 :: 126 :: 127 :: 128 :: 129 :: 130 :: 131 :: 132 :: 133 :: 134 :: 135 :: 136 :: 137 :: 138 :: 139 :: 140 :: 141 :: 142 :: 143 :: 144 :: 145 :: 146 :: 147 :: 148 :: 149 :: 150 :: 151 :: 152 :: 153 :: 154 :: 155 :: 156 :: 157 :: 158 :: 159 :: 160 :: 161 :: 162 :: 163 :: 164 :: 165 :: 166 :: 167 :: 168 :: 169 :: 170 :: 171 :: 172 :: 173 :: 174 :: 175 :: 176 :: 177 :: 178 :: 179 :: 180 :: 181 :: 182 :: 183 :: 184 :: 185 :: 186 :: 187 :: 188 :: 189 :: 190 :: 191 :: 192 :: 193 :: 194 :: 195 :: 196 :: 197 :: 198 :: 199 :: 200 :: 201 :: 202 :: 203 :: 204 :: 205 :: 206 :: 207 :: 208 :: 209 :: 210 :: 211 :: 212 :: 213 :: 214 :: 215 :: 216 :: 217 :: 218 :: 219 :: 220 :: 221 :: 222 :: 223 :: 224 :: 225 :: 226 :: 227 :: 228 :: 229 :: 230 :: 231 :: 232 :: 233 :: 234 :: 235 :: 236 :: 237 :: 238 :: 239 :: 240 :: 241 :: 242 :: 243 :: 244 :: 245 :: 246 :: 247 :: 248 :: 249 :: 250 :: 251 :: 252 :: 253 :: 254 :: 255 :: []))]
noncomputable abbrev H_39 : Hook := kmHook heap_39 (nat_lit 2 :: nat_lit 3 :: nat_lit 32 :: nat_lit 34 :: nat_lit 35 :: nat_lit 37 :: nat_lit 38 :: nat_lit 42 :: nat_lit 43 :: nat_lit 47 :: nat_lit 48 :: nat_lit 56 :: nat_lit 57 :: nat_lit 59 :: nat_lit 60 :: nat_lit 62 :: nat_lit 63 :: nat_lit 64 :: nat_lit 66 :: nat_lit 67 :: nat_lit 69 :: nat_lit 70 :: nat_lit 71 :: nat_lit 73 :: nat_lit 74 :: nat_lit 76 :: nat_lit 77 :: nat_lit 78 :: nat_lit 80 :: nat_lit 81 :: nat_lit 83 :: nat_lit 84 :: nat_lit 85 :: nat_lit 88 :: nat_lit 89 :: nat_lit 90 :: nat_lit 92 :: nat_lit 93 :: nat_lit 95 :: nat_lit 96 :: nat_lit 97 :: nat_lit 99 :: nat_lit 100 :: nat_lit 102 :: nat_lit 103 :: nat_lit 104 :: nat_lit 106 :: nat_lit 107 :: nat_lit 109 :: nat_lit 110 :: nat_lit 111 :: nat_lit 112 :: nat_lit 114 :: nat_lit 115 :: nat_lit 117 :: nat_lit 118 :: nat_lit 119 :: nat_lit 122 :: nat_lit 123 :: nat_lit 124 :: nat_lit 127 :: nat_lit 128 :: nat_lit 129 :: nat_lit 131 :: nat_lit 132 :: nat_lit 134 :: nat_lit 135 :: nat_lit 136 :: nat_lit 138 :: nat_lit 139 :: nat_lit 141 :: nat_lit 142 :: nat_lit 143 :: nat_lit 146 :: nat_lit 147 :: nat_lit 148 :: nat_lit 150 :: nat_lit 151 :: nat_lit 153 :: nat_lit 154 :: nat_lit 155 :: nat_lit 157 :: nat_lit 158 :: nat_lit 160 :: nat_lit 161 :: nat_lit 162 :: nat_lit 164 :: nat_lit 165 :: nat_lit 167 :: nat_lit 168 :: nat_lit 169 :: nat_lit 170 :: nat_lit 171 :: nat_lit 172 :: nat_lit 173 :: nat_lit 176 :: nat_lit 178 :: nat_lit 179 :: nat_lit 181 :: nat_lit 182 :: nat_lit 183 :: nat_lit 185 :: nat_lit 186 :: nat_lit 188 :: nat_lit 189 :: nat_lit 190 :: nat_lit 191 :: nat_lit 193 :: nat_lit 194 :: nat_lit 196 :: nat_lit 197 :: nat_lit 198 :: nat_lit 199 :: nat_lit 201 :: nat_lit 202 :: nat_lit 204 :: nat_lit 205 :: nat_lit 206 :: nat_lit 208 :: nat_lit 209 :: nat_lit 211 :: nat_lit 212 :: nat_lit 213 :: nat_lit 215 :: nat_lit 216 :: nat_lit 218 :: nat_lit 219 :: nat_lit 220 :: nat_lit 227 :: nat_lit 229 :: nat_lit 230 :: nat_lit 232 :: nat_lit 233 :: nat_lit 234 :: nat_lit 235 :: nat_lit 236 :: nat_lit 239 :: nat_lit 246 :: nat_lit 248 :: nat_lit 249 :: nat_lit 251 :: nat_lit 252 :: nat_lit 253 :: nat_lit 255 :: nat_lit 256 :: nat_lit 258 :: nat_lit 259 :: nat_lit 260 :: nat_lit 262 :: nat_lit 263 :: nat_lit 265 :: nat_lit 266 :: nat_lit 267 :: nat_lit 268 :: nat_lit 269 :: nat_lit 272 :: nat_lit 274 :: nat_lit 275 :: nat_lit 277 :: nat_lit 278 :: nat_lit 279 :: nat_lit 281 :: nat_lit 282 :: nat_lit 284 :: nat_lit 285 :: nat_lit 286 :: nat_lit 288 :: nat_lit 289 :: nat_lit 291 :: nat_lit 292 :: nat_lit 293 :: nat_lit 295 :: nat_lit 296 :: nat_lit 298 :: nat_lit 299 :: nat_lit 300 :: nat_lit 302 :: nat_lit 303 :: nat_lit 305 :: nat_lit 306 :: nat_lit 307 :: nat_lit 309 :: nat_lit 310 :: nat_lit 312 :: nat_lit 313 :: nat_lit 314 :: nat_lit 317 :: nat_lit 318 :: nat_lit 319 :: nat_lit 321 :: nat_lit 322 :: nat_lit 324 :: nat_lit 325 :: nat_lit 326 :: nat_lit 328 :: nat_lit 329 :: nat_lit 331 :: nat_lit 332 :: nat_lit 333 :: nat_lit 336 :: nat_lit 337 :: nat_lit 338 :: nat_lit 340 :: nat_lit 341 :: nat_lit 343 :: nat_lit 344 :: nat_lit 345 :: nat_lit 348 :: nat_lit 349 :: nat_lit 350 :: nat_lit 353 :: nat_lit 354 :: nat_lit 355 :: nat_lit 358 :: nat_lit 359 :: []) (fun _ => by kernel_rfl) [327]

noncomputable abbrev row_39 : RowW := OpenRow.toRowW (OpenLaw.row PySem.Challenge.rw_rt0088_01)
theorem size_ok (w : World) : ((H0 w.params).isNs mainGlobals && (Array.mk [] : Array GenState).size == 0, (H0 w.params).objs.size, (H0 w.params).nsMap mainGlobals "__annotations__") = (true, 28, some (.ref 6)) := by
  kernel_rfl
theorem stat_ok (w : World) (os : OsState) : (staticsOk (importedModules pr.main.body) (H0 w.params) (Hz w.params) && namesBound pr (Hz w.params) && gensDone ⟨Hz w.params, Array.mk [], dr, 774, os⟩ && laidKept (H0 w.params) (Hz w.params)) = true := by
  kernel_rfl
theorem seen_ok (w : World) (os : OsState) : openSeen view_39 loose_39 (importedModules pr.main.body) (fun s => xlAt view_39 lv_39 s && recOk (RowW.records row_39) s) true ⟨Hz w.params, Array.mk [], dr, 774, os⟩ = openGood view_39 loose_39 := by
  rw [PySem.W.Fast.te4187177175401517315, PySem.W.Fast.te5923862056798008813]
  kernel_rfl
theorem obs_ok (w : World) (os : OsState) : Hook.obs H_39 ⟨Hz w.params, Array.mk [], dr, 774, os⟩ = Hook.val H_39 w := by
  kernel_rfl
theorem left : LeftO row_39.prog view_39 loose_39 (fun s => xlAt view_39 lv_39 s && recOk (RowW.records row_39) s) (Hook.obs H_39) (Hook.val H_39) 4436 :=
  LeftO.of_pieces (H₀ := H0) (H₁ := Hz) (gs₀ := Array.mk []) (gs₁ := Array.mk []) (d₀ := dr) (d₁ := dr) (k₀ := 276) (k₁ := 774) (m₀ := 28) (ann := some (.ref 6)) (M := 12 + (1 + (185 + (729 + (480 + (310 + (456 + 2)))))))
    open_ok size_ok run_ok (by decide) (fun w => funext fun os => looks_pair (stat_ok w os) (looks_pair (seen_ok w os) (obs_ok w os)))
noncomputable abbrev rl : OpenLaw := PySem.Challenge.rw_rt0088_01
theorem said_roads : noRoadLSs { strict := !(importedModules rl.row.prog.main.body).all cThrough.contains, foot := none, bare := (["vars", "dir", "locals"] : List Str).filter (readsOut rl.row.prog rl.row.prog.main.body) } rl.row.prog.main.body = true := by
  rw [PySem.W.Fast.te8326940854005059898]
  kernel_rfl
theorem said_looks : looksOpen rl.row.prog = true := by
  unfold looksOpen
  rw [said_roads, PySem.W.Fast.te11788848310118352699, PySem.W.Fast.te8377067652309620493, PySem.W.Fast.te17119622794617984870]
  kernel_rfl
theorem said_row : OpenRow.wellSaid rl.row = true := by
  unfold OpenRow.wellSaid OpenRow.partSaid
  rw [said_looks]
  kernel_rfl
theorem said_ok : OpenLaw.wellSaid PySem.Challenge.rw_rt0088_01 = true := by
  unfold OpenLaw.wellSaid
  rw [said_row, PySem.W.Fast.te8179353310426384613, PySem.W.Fast.te17119622794617984870, PySem.W.Fast.te8326940854005059898]
  kernel_rfl
noncomputable def rec_39 : DefRec := by
  refine' (?F : (x : DefRec) → x = ((defOf view_39 row_39.name).map (·.1)).getD ⟨default, default, default, default, default⟩ → DefRec) _ ?h
  walk_at "lit"
end Mine88.hd
open Mine88.hd
theorem Mine88.hd (walk : WalkO view_39 loose_39 (XL view_39 lv_39) (Hook.says H_39) row_39 rec_39 [] fun f vs => PySem.call f vs) : PySem.Challenge.rw_rt0088_01.Holds := by
  refine holds_law said_ok fun said => ?_
  refine holds_open (q := view_39) (loose := loose_39) (Xt := fun s => xlAt view_39 lv_39 s && recOk (RowW.records row_39) s) (XP := XL view_39 lv_39) (Yf := Hook.obs H_39) (Ya := Hook.val H_39) (YP := Hook.says H_39) (N := 4436) left (Hook.of H_39) (Hook.keeps H_39) (fun s e => xl_of s (Bool.and_eq_true_iff.mp e).1) XL.keeps (d := rec_39) (kwd := []) (by kernel_rfl) (by kernel_rfl) (by kernel_rfl) (fun s e => recFacts_of (Bool.and_eq_true_iff.mp e).2) (by rfl) (by first | assumption | decide +kernel) (by decide +kernel) ⟨rfl, rfl, rfl, rfl, rfl, by decide +kernel⟩ ?hw walk
  case hw => w_witness2
end

-- part P1 (a)
section
open PySem PySem.W PyProof.Rows PySem.Spec PySem.Calls
set_option maxRecDepth 100000
set_option maxHeartbeats 8000000
namespace Mine88
section
variable {prog : PySem.Program} {w : World} {A : Around} {E : Value → Shared → Prop} {s : Shared}
theorem issub_self_str {dep : Int} {tk : Tok} {Q : Fin → Shared → Prop} (hq : Q (.done (.ret (.bool true))) s) :
    wpAny (model prog w) A (Builtin.«issubclass.nested» ⟨[.type "str", .type "str", .int dep tk], []⟩) Q E s := by
  have hty : typeOf (.type "str") = pure (.type "type") := by kernel_rfl
  have hsub : isSubtype (.type "str") (.type "str") = pure true := by rw [isSubtype_type]; kernel_rfl
  repeat (any_goals (first | assumption | (rw [hsub]) | wp_step))

theorem issub_nested_call {dep : Int} {tk : Tok} {Q : Value → Shared → Prop} (hq : Q (.bool true) s) :
    wpAny (model prog w) A (call (.builtin "issubclass.nested") [.type "str", .type "str", .int dep tk]) Q E s :=
  call_function_meets (S := fun _ R s => R (.ok (.ret (.bool true))) s) (by decide +kernel) (by decide +kernel) F.entry_issubclass_nested (by unfold argsOk; kernel_rfl)
    (fun _ _ _ _ _ hs => issub_self_str hs) hq

theorem issub_tup {tk : Tok} {D : Addr} {Q : Fin → Shared → Prop} (hD : s.heap.get? D = some { cls := .type "tuple", data := .seq [Value.type "str", Value.type "bytes"].toArray }) (hq : Q (.done (.ret (.bool true))) s) :
    wpAny (model prog w) A (Builtin.«issubclass.nested» ⟨[.type "str", .ref D, .int 0 tk], []⟩) Q E s := by
  obtain ⟨h, g, d, t, os⟩ := s
  have hT : (⟨h, g, d, t, os⟩ : Shared).TypeIs (.ref D) "tuple" := ⟨_, hD, rfl⟩
  have hsub : isSubtype (.type "tuple") (.type "tuple") = pure true := by rw [isSubtype_type]; kernel_rfl
  repeat (any_goals (first | assumption | (refine issub_nested_call ?_) | wp_step))

theorem issub_call {D : Addr} {Q : Value → Shared → Prop} (hD : s.heap.get? D = some { cls := .type "tuple", data := .seq [Value.type "str", Value.type "bytes"].toArray }) (hq : ∀ tk, Q (.bool true) { s with toks := tk }) :
    wpAny (model prog w) A (call (.builtin "issubclass") [.type "str", .ref D]) Q E s :=
  call_issubclass (S := fun _ R s => s.heap.get? D = some { cls := .type "tuple", data := .seq [Value.type "str", Value.type "bytes"].toArray } ∧ ∀ tk, R (.ok (.ret (.bool true))) { s with toks := tk })
    (fun _ _ _ _ _ hs => issubclass_outer (issub_tup hs.1 (hs.2 _))) ⟨hD, hq⟩
end

theorem ne_of_lt_all {news : List (Addr × Obj)} {a b : Nat} {p : Addr × Obj} (h : ∀ q ∈ news, q.1 < a) (hp : p ∈ news) (hab : a ≤ b) : p.1 ≠ b := Nat.ne_of_lt (Nat.lt_of_lt_of_le (h p hp) hab)
/-- a call at which no contract serves: the walk stops there -/
noncomputable def Stop (P : Prop) : Prop := P
theorem Stop.out {P : Prop} (h : Stop P) : P := h
/-- the call site: a call of the def at f with the arguments vs, from a def's frame; Post says what comes back (the value, the heap, the ledger) -/
noncomputable abbrev Site (w : World) (dp un : Nat) (d u : Nat) (f : Addr) (vs : List Value) (kw : List (PySem.Str × Value)) (news : List (Addr × Obj)) (Post : (Value → Heap → List (Addr × Obj) → Prop)) : Prop :=
  ∀ (gd : Option (List Code)) (cn : PySem.Str) (csn : List (PySem.Str × NameKind)) (csg csc : Bool) (csm : List (PySem.Str × Const)) (a : Addr) (ccd : Value) (cl : List (PySem.Str × Addr)) (outer : List Env) (A₀ : Around) (base h₀ : Heap) (L : Addr) (m : PySem.Str → Option Value) (s : Shared) (Q E : Value → Shared → Prop)
    (p : PySem.Program) (loose : List PySem.Str) (mean : ExcName → Option Value) (mg mb : PySem.Str → Option Value),
    Below A₀ base outer h₀ → Fr h₀ L s.heap m → (Mine88.hd.heap_39 w.params).In h₀ → News h₀ L s.heap news → Top p loose mean mg mb h₀ → dp + d < recursionLimit → un + u < cLine →
    (∀ v h' tk' news', Fr h₀ L h' m → News h₀ L h' news' → Post v h' news' → Q v { s with heap := h', toks := tk' }) →
    wpAny (model PySem.Challenge.rw_rt0088_01.row.prog w) (ktrTop dp un gd cn { kind := .function, names := csn, isGenerator := csg, isCoroutine := csc, more := csm } L a ccd cl outer) (call (.ref f) vs kw) Q E s

theorem site_use {w : World} {dp un d u : Nat} {f : Addr} {vs : List Value} {kw : List (PySem.Str × Value)} {news : List (Addr × Obj)} {Post : (Value → Heap → List (Addr × Obj) → Prop)}
    {gd : Option (List Code)} {cn : PySem.Str} {csn : List (PySem.Str × NameKind)} {csg csc : Bool} {csm : List (PySem.Str × Const)} {a : Addr} {ccd : Value} {cl : List (PySem.Str × Addr)} {outer : List Env} {A₀ : Around} {base h₀ : Heap} {L : Addr} {m : PySem.Str → Option Value} {s : Shared} {Q E : Value → Shared → Prop}
    {p : PySem.Program} {loose : List PySem.Str} {mean : ExcName → Option Value} {mg mb : PySem.Str → Option Value}
    (B : Below A₀ base outer h₀) (F : Fr h₀ L s.heap m) (X : (Mine88.hd.heap_39 w.params).In h₀) (N : News h₀ L s.heap news) (T : Top p loose mean mg mb h₀)
    (C : Site w dp un d u f vs kw news Post) (hd : dp + d < recursionLimit) (hu : un + u < cLine)
    (ret : ∀ v h' tk' news', Fr h₀ L h' m → News h₀ L h' news' → Post v h' news' → Q v { s with heap := h', toks := tk' }) :
    wpAny (model PySem.Challenge.rw_rt0088_01.row.prog w) (ktrTop dp un gd cn { kind := .function, names := csn, isGenerator := csg, isCoroutine := csc, more := csm } L a ccd cl outer) (call (.ref f) vs kw) Q E s :=
  C _ _ _ _ _ _ _ _ _ _ _ _ _ _ _ _ _ _ _ _ _ _ _ B F X N T hd hu ret

/-- room and units without a search: the bound of the contract, the sum written out -/
theorem room_go {dp d x R : Nat} (hd : dp + d < R) (k : Nat) (e : x = dp + k) (hk : Nat.ble k d = true) : x < R := by
  subst e
  exact Nat.lt_of_le_of_lt (Nat.add_le_add_left (Nat.le_of_ble_eq_true hk) dp) hd
end Mine88
end

section
open PySem PySem.W PyProof.Rows PySem.Spec PySem.Calls PyProof.Rows.LCg Mine88
local macro_rules | `(tactic| walk_at $s:str) => `(tactic| k_extra $s)
local macro_rules | `(tactic| k_room) => `(tactic| first | (refine' room_go ?rgd _ ?rge ?rgk; (case rgd => assumption); (case rge => first | exact rfl | exact (Nat.add_zero _).symm | exact Nat.add_assoc _ _ _ | exact (Nat.add_assoc _ _ _).trans (Nat.add_assoc _ _ _)); (case rgk => exact rfl)) | ktr_room)
local macro_rules | `(tactic| k_units) => `(tactic| first | (refine' room_go ?rgd _ ?rge ?rgk; (case rgd => assumption); (case rge => first | exact rfl | exact (Nat.add_zero _).symm | exact Nat.add_assoc _ _ _ | exact (Nat.add_assoc _ _ _).trans (Nat.add_assoc _ _ _)); (case rgk => exact rfl)) | ktr_units)
local macro_rules | `(tactic| k_mem) => `(tactic| first | assumption | (refine List.Mem.tail _ ?_; assumption) | (refine List.Mem.tail _ (List.Mem.tail _ ?_); assumption) | (refine List.Mem.tail _ (List.Mem.tail _ (List.Mem.tail _ ?_)); assumption) | (refine List.Mem.tail _ (List.Mem.tail _ (List.Mem.tail _ (List.Mem.tail _ ?_))); assumption) | (refine List.Mem.tail _ (List.Mem.tail _ (List.Mem.tail _ (List.Mem.tail _ (List.Mem.tail _ ?_)))); assumption) | (refine List.Mem.tail _ (List.Mem.tail _ (List.Mem.tail _ (List.Mem.tail _ (List.Mem.tail _ (List.Mem.tail _ ?_))))); assumption))
local macro_rules | `(tactic| k_all) => `(tactic| (intro p9 hp9; exact ne_of_lt_all (by assumption) hp9 (by omega)))
-- part P1
section
open PySem PySem.W PyProof.Rows PySem.Spec PySem.Calls
set_option maxRecDepth 100000
set_option maxHeartbeats 8000000
namespace Mine88
theorem set_rows_P1 : True := by
  k_with_none
  k_with "call builtin:issubclass" => (k_here; (with_reducible show wpAny _ _ (call (Value.builtin "issubclass") [Value.type "str", Value.ref _]) _ _ _); k_dflt (refine' issub_call ?k1 ?_; (case k1 => exact News.get (by assumption) (by k_mem)); k_whole); intro tk_z)
  trivial
theorem get_sep_c (w : World) (dp un : Nat) (news : List (Addr × Obj)) (x : PySem.Str) (tx : Tok) :
    Site w dp un 10 100 299 [.str x tx] [] news (fun v _ n' => n' = news ∧ ∃ t, v = .str (PySem.Str.ofString "/") t) := by
  unfold Site
  k_fill
  intro gd cn csn csg csc csm a ccd cl outer A₀ base h₀ L m s Q E p loose mean mg mb B F X N T hd hu hret
  refine wpAny_call ?_
  k_dflt k_enter
  k_steps
  exact hret _ _ _ _ (by k_asm) (by k_asm) ⟨rfl, _, rfl⟩

theorem fspath_c (w : World) (dp un : Nat) (news : List (Addr × Obj)) (x : PySem.Str) (tx : Tok) :
    Site w dp un 10 100 285 [.str x tx] [] news (fun v _ n' => n' = news ∧ v = .str x tx) := by
  unfold Site
  k_fill
  intro gd cn csn csg csc csm a ccd cl outer A₀ base h₀ L m s Q E p loose mean mg mb B F X N T hd hu hret
  refine wpAny_call ?_
  k_dflt k_enter
  k_steps
  exact hret _ _ _ _ (by k_asm) (cb_drop (by assumption) (by kcj_all)) ⟨rfl, rfl⟩
end Mine88
end

-- part P2
section
open PySem PySem.W PyProof.Rows PySem.Spec PySem.Calls
set_option maxRecDepth 100000
set_option maxHeartbeats 8000000
namespace Mine88
theorem set_rows_P2 : True := by
  k_with_none
  k_with "call builtin:issubclass" => (k_here; (with_reducible show wpAny _ _ (call (Value.builtin "issubclass") [Value.type "str", Value.ref _]) _ _ _); k_dflt (refine' issub_call ?k1 ?_; (case k1 => exact News.get (by assumption) (by k_mem)); k_whole); intro tk_z)
  k_with "call ref" => (k_here; (with_reducible show wpAny _ _ (call (Value.ref 299) [Value.str _ _] _) _ _ _); refine Stop.out ?_)
  k_with "call ref" => (k_here; (with_reducible show wpAny _ _ (call (Value.ref 299) [Value.str _ _] _) _ _ _); k_dflt (refine' site_use ?k1 ?k2 ?k3 ?k4 ?k5 (get_sep_c _ _ _ _ _ _) ?kd ?ku ?_; (case k1 => k_asm); (case k2 => k_asm); (case k3 => k_asm); (case k4 => k_asm); (case k5 => k_asm); (case kd => k_room); (case ku => k_units); k_whole); intro v9_z h'_z tk9_z n9_z F'_z N'_z hP9; (obtain ⟨e9_z, t9_z, e8_z⟩ := hP9; have e7_z := Eq.symm e9_z; clear e9_z; subst e7_z; subst e8_z); (try dsimp only))
  k_with "call ref" => (k_here; (with_reducible show wpAny _ _ (call (Value.ref 285) [Value.str _ _] _) _ _ _); refine Stop.out ?_)
  k_with "call ref" => (k_here; (with_reducible show wpAny _ _ (call (Value.ref 285) [Value.str _ _] _) _ _ _); k_dflt (refine' site_use ?k1 ?k2 ?k3 ?k4 ?k5 (fspath_c _ _ _ _ _ _) ?kd ?ku ?_; (case k1 => k_asm); (case k2 => k_asm); (case k3 => k_asm); (case k4 => k_asm); (case k5 => k_asm); (case kd => k_room); (case ku => k_units); k_whole); intro v9_z h'_z tk9_z n9_z F'_z N'_z hP9; (obtain ⟨e9_z, e8_z⟩ := hP9; have e7_z := Eq.symm e9_z; clear e9_z; subst e7_z; subst e8_z); (try dsimp only))
  k_with "truthy str" => (k_here; (with_reducible show wpAny _ _ (PySem.truthy (Value.str _ _)) _ _ _); (refine' KXt.truthy_pos (K := 1000) ?kxta ?kxtb ?kxtc ?_; (case kxta => assumption); (case kxtb => assumption); (case kxtc => exact Nat.le_of_ble_eq_true rfl)); intro _)
  trivial
theorem join_c1 (w : World) (dp un : Nat) (news : List (Addr × Obj)) (x y : PySem.Str) (tx ty : Tok) (hy : Txt.startswith y (PySem.Str.ofString "/") = false) (hx1 : 1 ≤ x.length) (hx2 : x.length ≤ 1000) (hy2 : y.length ≤ 1000)
    (he : Txt.endswith x (PySem.Str.ofString "/") = true) :
    Site w dp un 20 200 306 [.str x tx, .str y ty] [] news (fun v _ n' => n' = news ∧ ∃ t, v = .str (x ++ y) t) := by
  unfold Site
  k_fill
  intro gd cn csn csg csc csm a ccd cl outer A₀ base h₀ L m s Q E p loose mean mg mb B F X N T hd hu hret
  refine wpAny_call ?_
  k_dflt k_enter
  k_steps
  (with_unfolding_all refine' For_unrF (by k_asm) ?_ ?ks); (case ks => (intro _; with_unfolding_all rfl))
  k_steps
  exact hret _ _ _ _ (by k_asm) (cb_drop (by assumption) (by kcj_all)) ⟨rfl, _, rfl⟩
theorem join_c2 (w : World) (dp un : Nat) (news : List (Addr × Obj)) (x y : PySem.Str) (tx ty : Tok) (hy : Txt.startswith y (PySem.Str.ofString "/") = false) (hx1 : 1 ≤ x.length) (hx2 : x.length ≤ 1000) (hy2 : y.length ≤ 1000)
    (he : Txt.endswith x (PySem.Str.ofString "/") = false) :
    Site w dp un 20 200 306 [.str x tx, .str y ty] [] news (fun v _ n' => n' = news ∧ ∃ t, v = .str (x ++ (PySem.Str.ofString "/" ++ y)) t) := by
  unfold Site
  k_fill
  intro gd cn csn csg csc csm a ccd cl outer A₀ base h₀ L m s Q E p loose mean mg mb B F X N T hd hu hret
  refine wpAny_call ?_
  k_dflt k_enter
  k_steps
  (with_unfolding_all refine' For_unrF (by k_asm) ?_ ?ks); (case ks => (intro _; with_unfolding_all rfl))
  k_steps
  exact hret _ _ _ _ (by k_asm) (cb_drop (by assumption) (by kcj_all)) ⟨rfl, _, rfl⟩
end Mine88
end

-- part P3
section
open PySem PySem.W PyProof.Rows PySem.Spec PySem.Calls
set_option maxRecDepth 100000
set_option maxHeartbeats 8000000
namespace Mine88
theorem re_attrs : PlainAttrs "re.Pattern" := by
  first
    | exact ⟨⟨"re.Pattern.__getattribute__", by rw [typeLookup_type, builtinLookup_eq_fast]; kernel_rfl, by decide +kernel⟩, by rw [typeLookup_type, builtinLookup_eq_fast]; kernel_rfl⟩
    | exact ⟨⟨"object.__getattribute__", by rw [typeLookup_type, builtinLookup_eq_fast]; kernel_rfl, by decide +kernel⟩, by rw [typeLookup_type, builtinLookup_eq_fast]; kernel_rfl⟩
theorem re_slot : Slot "re.Pattern" "search" "re.Pattern.search" :=
  .of (owner := "re.Pattern") (n := "search") (by rw [typeLookup_type, builtinLookup_eq_fast]; kernel_rfl) (by decide +kernel) (by decide +kernel) (by decide +kernel)
    (by first | exact .inl (by decide +kernel) | exact .inr (by decide +kernel)) (by rw [isSubtype_type]; kernel_rfl)
theorem re_entry : entryFor table "re.Pattern.search" = some Builtin.«re.Pattern.search» := entryFor_of_tree (by kernel_rfl)
theorem re_type : typeOf (.builtin "re.Pattern.search") = pure (.type "method_descriptor") := by show builtinType _ = _; rw [builtinType_eq_fast]; kernel_rfl
theorem re_args (a b : Value) : argsOk "re.Pattern.search" ⟨[a, b], []⟩ := by unfold argsOk; kernel_rfl

/-- the machine fails in its first turn -/
noncomputable def reFails (code : Array Nat) (x : PySem.Str) : Bool := match ((Sre.forSearch code x.cps 0 0 (min (2 ^ 63 - 1 : Int).toNat x.cps.size) false).runFor 4).outcome with
  | some .failed => true
  | _ => false

section
variable {prog : PySem.Program} {w : World} {A : Around} {E : Value → Shared → Prop} {s : Shared}
theorem re_drive {m : Sre.M} {Q : Sre.M → Shared → Prop} (h : (m.runFor 4).outcome.isSome = true) (hq : Q (m.runFor 4) s) (n : Nat) : wpAny (model prog w) A (Builtin.Re.reDrive (n + 1) m) Q E s := by
  show wpAny (model prog w) A (if (m.runFor 4).outcome.isSome = true then pure (m.runFor 4) else do rule "sre.turn"; Builtin.Re.reDrive n (m.runFor 4)) Q E s
  rw [if_pos h]
  exact wpAny_pure hq
theorem re_rules (P : Nat → Bool) (tag : Nat → String) : ∀ (l : List Nat) {Q : PUnit → Shared → Prop}, Q ⟨⟩ s →
    wpAny (model prog w) A (forIn l PUnit.unit fun i _ => do
      if P i = true then do rule (tag i); pure (ForInStep.yield PUnit.unit) else pure (ForInStep.yield PUnit.unit)) Q E s := by
  intro l
  induction l with
  | nil => intro Q h; exact wpAny_pure h
  | cons i l ih =>
    intro Q h
    rw [List.forIn_cons]
    refine wpAny_bind ?_
    split
    · exact wpAny_bind (wpAny_rule (wpAny_pure (ih h)))
    · exact wpAny_pure (ih h)
theorem re_end {m : Sre.M} {Q : Option Sre.M → Shared → Prop} (h : (m.runFor 4).outcome = some .failed) (hq : Q none s) : wpAny (model prog w) A (Builtin.Re.reRunToEnd m) Q E s := by
  unfold Builtin.Re.reRunToEnd
  refine wpAny_bind (re_drive (n := 2 ^ 64 - 1) (by rw [h]; rfl) ?_)
  refine wpAny_bind ?_
  refine re_rules (fun i => (m.runFor 4).seen.has i) (fun i => Sre.names.getD i "") _ ?_
  rw [h]
  exact wpAny_pure hq

noncomputable def reObj (pat : PySem.Str) (a : Tok) (b : Tok) (c : Addr) : Obj := { cls := .type "re.Pattern", data := .fields #[.str pat a, .int 32 b, .int 0 0, .none, .none, .ref c, .int 0 0] }
theorem re_search {P c : Addr} {pat x : PySem.Str} {a b tx : Tok} {code : List Value} {Q : Fin → Shared → Prop} (hP : s.heap.get? P = some (reObj pat a b c)) (hc : s.heap.get? c = some { cls := .type "tuple", data := .seq code.toArray })
    (hf : reFails ((code.toArray.map Builtin.Re.reRawOf).map (·.toNat)) x = true) (hq : Q (.done (.ret .none)) s) :
    wpAny (model prog w) A (Builtin.«re.Pattern.search» ⟨[.ref P, .str x tx], []⟩) Q E s := by
  obtain ⟨h, g, d, t, os⟩ := s
  have hT : (⟨h, g, d, t, os⟩ : Shared).TypeIs (.ref P) "re.Pattern" := ⟨_, hP, rfl⟩
  have hT2 : (⟨h, g, d, t, os⟩ : Shared).TypeIs (.ref c) "tuple" := ⟨_, hc, rfl⟩
  have hf' : ((Sre.forSearch ((code.toArray.map Builtin.Re.reRawOf).map (·.toNat)) x.cps 0 0 (min (2 ^ 63 - 1 : Int).toNat x.cps.size) false).runFor 4).outcome = some .failed := by
    unfold reFails at hf
    split at hf
    · assumption
    · cases hf
  repeat (any_goals (first | assumption | (refine re_end hf' ?_) | wp_step))
  all_goals trace_state

theorem re_getMethod {M : Model} {K : Frag} {h₀ : Heap} {L P c : Addr} {m : PySem.Str → Option Value} {pat : PySem.Str} {a b : Tok} {pl : Sem Bool} {Q : Value × List Value → Shared → Prop} (F : Fr h₀ L s.heap m) (X : K.In h₀) (hl : K.lookup P = some (reObj pat a b c))
    (h : Q (.builtin "re.Pattern.search", [.ref P]) s) : wpAny M A (getMethod (.ref P) "search" pl) Q E s :=
  getMethod_builtin ⟨_, (X.keeps F.keep) _ _ hl, rfl⟩ re_attrs re_slot re_type (fun _ e => ⟨_, Value.ref.inj e ▸ (X.keeps F.keep) _ _ hl, rfl⟩) h
theorem re_call {K : Frag} {h₀ : Heap} {L P c : Addr} {m : PySem.Str → Option Value} {pat x : PySem.Str} {a b tx : Tok} {code : List Value} {cd : Array Nat} {Q : Value → Shared → Prop} (F : Fr h₀ L s.heap m) (X : K.In h₀) (hl : K.lookup P = some (reObj pat a b c))
    (hc : K.lookup c = some { cls := .type "tuple", data := .seq code.toArray }) (he : (code.toArray.map Builtin.Re.reRawOf).map (·.toNat) = cd) (hf : reFails cd x = true) (hq : Q .none s) :
    wpAny (model prog w) A (call (.builtin "re.Pattern.search") [.ref P, .str x tx]) Q E s :=
  call_meets re_slot (T := "re.Pattern") ⟨_, (X.keeps F.keep) _ _ hl, rfl⟩ re_entry (re_args _ _)
    (S := fun _ R s => s.heap.get? P = some (reObj pat a b c) ∧ s.heap.get? c = some { cls := .type "tuple", data := .seq code.toArray } ∧ R (.ok (.ret .none)) s)
    (fun _ _ _ _ _ hs => re_search hs.1 hs.2.1 (by rw [he]; exact hf) hs.2.2) ⟨(X.keeps F.keep) _ _ hl, (X.keeps F.keep) _ _ hc, hq⟩
end
noncomputable abbrev codeN : Array Nat := #[14, 10, 4, 1, 1, 22, 0, 31, 16, 127, 0, 13, 7, 22, 0, 31, 16, 127, 0, 1]
noncomputable abbrev codeV : Array Nat := #[14, 14, 4, 1, 1, 9, 4294966783, 0, 0, 2147483648, 0, 0, 0, 0, 0, 13, 11, 9, 4294966783, 0, 0, 2147483648, 0, 0, 0, 0, 0, 1]
theorem set_rows_P3 : True := by
  k_with_none
  k_with "call builtin:issubclass" => (k_here; (with_reducible show wpAny _ _ (call (Value.builtin "issubclass") [Value.type "str", Value.ref _]) _ _ _); k_dflt (refine' issub_call ?k1 ?_; (case k1 => exact News.get (by assumption) (by k_mem)); k_whole); intro tk_z)
  k_with "call ref" => (k_here; (with_reducible show wpAny _ _ (call (Value.ref 299) [Value.str _ _] _) _ _ _); refine Stop.out ?_)
  k_with "call ref" => (k_here; (with_reducible show wpAny _ _ (call (Value.ref 299) [Value.str _ _] _) _ _ _); k_dflt (refine' site_use ?k1 ?k2 ?k3 ?k4 ?k5 (get_sep_c _ _ _ _ _ _) ?kd ?ku ?_; (case k1 => k_asm); (case k2 => k_asm); (case k3 => k_asm); (case k4 => k_asm); (case k5 => k_asm); (case kd => k_room); (case ku => k_units); k_whole); intro v9_z h'_z tk9_z n9_z F'_z N'_z hP9; (obtain ⟨e9_z, t9_z, e8_z⟩ := hP9; have e7_z := Eq.symm e9_z; clear e9_z; subst e7_z; subst e8_z); (try dsimp only))
  k_with "call ref" => (k_here; (with_reducible show wpAny _ _ (call (Value.ref 285) [Value.str _ _] _) _ _ _); refine Stop.out ?_)
  k_with "call ref" => (k_here; (with_reducible show wpAny _ _ (call (Value.ref 285) [Value.str _ _] _) _ _ _); k_dflt (refine' site_use ?k1 ?k2 ?k3 ?k4 ?k5 (fspath_c _ _ _ _ _ _) ?kd ?ku ?_; (case k1 => k_asm); (case k2 => k_asm); (case k3 => k_asm); (case k4 => k_asm); (case k5 => k_asm); (case kd => k_room); (case ku => k_units); k_whole); intro v9_z h'_z tk9_z n9_z F'_z N'_z hP9; (obtain ⟨e9_z, e8_z⟩ := hP9; have e7_z := Eq.symm e9_z; clear e9_z; subst e7_z; subst e8_z); (try dsimp only))
  k_with "truthy str" => (k_here; (with_reducible show wpAny _ _ (PySem.truthy (Value.str _ _)) _ _ _); (refine' KXt.truthy_pos (K := 1000) ?kxta ?kxtb ?kxtc ?_; (case kxta => assumption); (case kxtb => assumption); (case kxtc => exact Nat.le_of_ble_eq_true rfl)); intro _)
  k_with "getMethod ref" => (k_here; (with_reducible show wpAny _ _ (getMethod (Value.ref 43) _ _) _ _ _); k_dflt (refine' re_getMethod ?k1 ?k2 ?k3 ?_; (case k1 => k_asm); (case k2 => k_asm); (case k3 => k_is); k_whole))
  k_with "getMethod ref" => (k_here; (with_reducible show wpAny _ _ (getMethod (Value.ref 48) _ _) _ _ _); k_dflt (refine' re_getMethod ?k1 ?k2 ?k3 ?_; (case k1 => k_asm); (case k2 => k_asm); (case k3 => k_is); k_whole))
  k_with "call builtin:re.Pattern.search" => (k_here; k_dflt (refine' re_call (cd := codeN) ?k1 ?k2 ?k3 ?k4 ?k5 ?k6 ?_; (case k1 => k_asm); (case k2 => k_asm); (case k3 => k_is); (case k4 => k_is); (case k5 => decide +kernel); (case k6 => with_reducible assumption); k_whole))
  k_with "call builtin:re.Pattern.search" => (k_here; k_dflt (refine' re_call (cd := codeV) ?k1 ?k2 ?k3 ?k4 ?k5 ?k6 ?_; (case k1 => k_asm); (case k2 => k_asm); (case k3 => k_is); (case k4 => k_is); (case k5 => decide +kernel); (case k6 => with_reducible assumption); k_whole))
  trivial
theorem conv_name (w : World) (dp un : Nat) (news : List (Addr × Obj)) (self : Value) (x : PySem.Str) (tx : Tok) (hx : reFails codeN x = true) :
    Site w dp un 20 200 70 [self, .str x tx] [(PySem.Str.ofString "name", .bool true)] news (fun v _ n' => n' = news ∧ v = .str x tx) := by
  unfold Site
  k_fill
  intro gd cn csn csg csc csm a ccd cl outer A₀ base h₀ L m s Q E p loose mean mg mb B F X N T hd hu hret
  refine wpAny_call ?_
  k_dflt k_enter
  k_steps
  exact hret _ _ _ _ (by k_asm) (by k_asm) ⟨rfl, rfl⟩
theorem conv_value (w : World) (dp un : Nat) (news : List (Addr × Obj)) (self : Value) (x : PySem.Str) (tx : Tok) (hx : reFails codeV x = true) :
    Site w dp un 20 200 70 [self, .str x tx] [(PySem.Str.ofString "name", .bool false)] news (fun v _ n' => n' = news ∧ v = .str x tx) := by
  unfold Site
  k_fill
  intro gd cn csn csg csc csm a ccd cl outer A₀ base h₀ L m s Q E p loose mean mg mb B F X N T hd hu hret
  refine wpAny_call ?_
  k_dflt k_enter
  k_steps
  exact hret _ _ _ _ (by k_asm) (by k_asm) ⟨rfl, rfl⟩
end Mine88
end

-- part P4
section
open PySem PySem.W PyProof.Rows PySem.Spec PySem.Calls
set_option maxRecDepth 100000
set_option maxHeartbeats 8000000
namespace Mine88
section
variable {prog : PySem.Program} {w : World} {A : Around} {s : Shared} {env : Env} {h₀ : Heap}
theorem letGo_list {E : Value → Shared → Prop} {target : PySem.Expr} {I t : Addr} {i : Nat} {v : Value} {Q' : Unit → Shared → Prop} {s' : Shared} (hit : s'.heap.IsListIter I t i) (h : Q' () s') :
    wpAny (model prog w) A (letOwnedTupleGo target (.ref I) v) Q' E s' := by
  obtain ⟨o, ho, hc, hd⟩ := hit
  unfold letOwnedTupleGo
  cases target <;> first
    | exact wpAny_pure h
    | (cases v <;> first
        | exact wpAny_pure h
        | (refine wpAny_bind (wpAny_load ho ?_)
           rw [hc, hd]
           exact wpAny_pure h))
/-- a loop over a list, any target: the turns are left as `Unr` -/
theorem iter_list_unr {E : Value → Shared → Prop} {Q : Flow → Shared → Prop} {target : PySem.Expr} {body : List Stmt} {m : PySem.Str → Option Value} {news : List (Addr × Obj)} {t : Addr} {items : Array Value}
    (hh : A.handled = none) (ht : s.heap.IsList t items) (F : Fr h₀ env.locals s.heap m) (N : News h₀ env.locals s.heap news) (htL : t ≠ env.locals)
    (h : ∀ s₁ : Shared, (∃ g, s₁ = { s with heap := g }) → Unr prog w A E h₀ env target body Q (fun i v => items[i]? = some v) [s.heap.objs.size, t] s₁ items.size 0 m news) :
    wpAny (model prog w) A (pyIter (.ref t)) (fun it s₂ => UnrAt prog w A h₀ env target body Q E it s₂) E s := by
  have hlt : t < s.heap.objs.size := by obtain ⟨_, e, _⟩ := ht; exact Heap.lt_size e
  refine wpAny_pyIter_list ht ?_
  refine ⟨s.heap.objs.size, [s.heap.objs.size, t], [s.heap.objs.size], items.size, _, _, m, news, rfl, Walks.list hh _ t (Nat.ne_of_lt hlt) items, ?_, ?_, ?_,
    ⟨⟨_, Heap.get?_push_size _ rfl, rfl, rfl⟩, ht.at fun o e => Heap.get?_push_of_some _ e⟩, F.push _, fun p hp => ⟨Heap.get?_push_of_some _ (N p hp).1, (N p hp).2⟩, fun i s' v Q' st hQ' => letGo_list st.1 hQ', h _ ⟨_, rfl⟩⟩
  · intro hm
    rcases List.mem_cons.mp hm with e | hm
    · exact absurd F.ns.lt (e ▸ Nat.lt_irrefl _)
    · exact htL (List.mem_singleton.mp hm).symm
  · intro b hb
    rw [List.mem_singleton.mp hb]
    exact Heap.get?_none_of_le (Nat.le_of_lt (Nat.lt_of_le_of_lt F.above F.ns.lt))
  · intro p hp hI
    exact absurd (Heap.lt_size (N p hp).1) ((List.mem_singleton.mp hI) ▸ Nat.lt_irrefl _)
/-- `Unr` over the items of a list, by what is left of it -/
theorem unr_items {E : Value → Shared → Prop} {Q : Flow → Shared → Prop} {target : PySem.Expr} {body : List Stmt} {fp : List Addr} {s₁ : Shared} {items : List Value} (J : List Value → (PySem.Str → Option Value) → List (Addr × Obj) → Prop)
    (turn : ∀ v r m₁ news₁ h₁ tk₁ own, J (v :: r) m₁ news₁ → (∀ p ∈ own, p.1 ∈ fp) → Fr h₀ env.locals h₁ m₁ → News h₀ env.locals h₁ (own ++ news₁) →
      wpAny (model prog w) A (assign target env v) (fun _ s₂ => wpAny (model prog w) A (execs body env)
        (LoopStep3 h₀ env.locals own news₁ (J r) { s₁ with heap := h₁, toks := tk₁ } (fun v s' => Q (.ret v) s') fun s' => Q .next s') E s₂) E { s₁ with heap := h₁, toks := tk₁ })
    (done : ∀ m₁ news₁ h₁ tk₁, J [] m₁ news₁ → Fr h₀ env.locals h₁ m₁ → News h₀ env.locals h₁ news₁ → Q .next { s₁ with heap := h₁, toks := tk₁ }) :
    ∀ (k : Nat) (i : Nat) (m₁ : PySem.Str → Option Value) (news₁ : List (Addr × Obj)), i + k = items.length → J (items.drop i) m₁ news₁ → Unr prog w A E h₀ env target body Q (fun i v => items.toArray[i]? = some v) fp s₁ k i m₁ news₁ := by
  intro k
  induction k with
  | zero =>
    intro i m₁ news₁ hi hJ
    rw [List.drop_eq_nil_of_le (by lia)] at hJ
    exact Unr.zero fun h' tk F N => done m₁ news₁ h' tk hJ F N
  | succ k ih =>
    intro i m₁ news₁ hi hJ
    have hlt : i < items.length := by lia
    rw [List.drop_eq_getElem_cons hlt] at hJ
    refine Unr.succ ?_
    intro v h₁ tk₁ own hP hown F N
    have hv : items[i] = v := by
      have hP' : items[i]? = some v := by simpa using hP
      rw [List.getElem?_eq_getElem hlt] at hP'
      exact Option.some.inj hP'
    subst hv
    refine wpAny_mono (turn _ _ m₁ news₁ h₁ tk₁ own hJ hown F N) (fun _ s₂ h₂ => wpAny_mono h₂ (fun f s₃ h₃ => ?_) fun _ _ e => e) fun _ _ e => e
    cases f with
    | ret v => exact h₃
    | brk => exact h₃
    | cont =>
      obtain ⟨e0, h₃', tk₃, m₂, news₂, e1, F₃, N₃, ha₃, hJ₃⟩ := h₃
      exact ⟨e0, h₃', tk₃, m₂, news₂, e1, F₃, N₃, ha₃, ih (i + 1) m₂ news₂ (by lia) hJ₃⟩
    | next =>
      obtain ⟨e0, h₃', tk₃, m₂, news₂, e1, F₃, N₃, ha₃, hJ₃⟩ := h₃
      exact ⟨e0, h₃', tk₃, m₂, news₂, e1, F₃, N₃, ha₃, ih (i + 1) m₂ news₂ (by lia) hJ₃⟩

/-- the rows of the list of a table of headers -/
noncomputable def RowAt (news : List (Addr × Obj)) (v : Value) (kv : PySem.Str × PySem.Str) : Prop := ∃ a tk tv ep, v = .ref a ∧ (a, ({ cls := .type "tuple", data := .seq #[.str kv.1 tk, .str kv.2 tv] ep } : Obj)) ∈ news
inductive RowsAre (news : List (Addr × Obj)) : List Value → List (PySem.Str × PySem.Str) → Prop
  | nil : RowsAre news [] []
  | cons {v vs kv tab} : RowAt news v kv → RowsAre news vs tab → RowsAre news (v :: vs) (kv :: tab)
theorem RowAt.mono {news news' : List (Addr × Obj)} {v kv} (h : RowAt news v kv) (hs : ∀ p ∈ news, p ∈ news') : RowAt news' v kv := let ⟨a, tk, tv, ep, e, hm⟩ := h; ⟨a, tk, tv, ep, e, hs _ hm⟩
theorem RowsAre.mono {news news' : List (Addr × Obj)} {vs tab} (h : RowsAre news vs tab) (hs : ∀ p ∈ news, p ∈ news') : RowsAre news' vs tab := by
  induction h with
  | nil => exact .nil
  | cons r _ ih => exact .cons (r.mono hs) ih
theorem RowsAre.length {news : List (Addr × Obj)} {vs tab} (h : RowsAre news vs tab) : vs.length = tab.length := by
  induction h with
  | nil => rfl
  | cons _ _ ih => simp [ih]
theorem RowsAre.snoc {news : List (Addr × Obj)} {vs tab v kv} (h : RowsAre news vs tab) (r : RowAt news v kv) : RowsAre news (vs ++ [v]) (tab ++ [kv]) := by
  induction h with
  | nil => exact .cons r .nil
  | cons r' _ ih => exact .cons r' ih
noncomputable abbrev listO (vs : List Value) (n : Nat) : Obj := { cls := .type "list", data := .seq vs.toArray n }

noncomputable def PairJ (news : List (Addr × Obj)) (a b : PySem.Str) (m₀ : PySem.Str → Option Value) (I : Prop) (m₁ : PySem.Str → Option Value) (n₁ : List (Addr × Obj)) : Prop := n₁ = news ∧ I ∧ ∃ u1 u2, m₁ = fun y => if y = b then u1 else if y = a then u2 else m₀ y
/-- a loop «for a, b in rows» that keeps the ledger: by what holds of the rows that are left -/
theorem pair_loop {E : Value → Shared → Prop} {Q : Flow → Shared → Prop} {body : List Stmt} {a b : PySem.Str} {pa pb tp : Pos} {kk : Nat} {m₀ : PySem.Str → Option Value} {news : List (Addr × Obj)} {l : Addr} {vs : List Value} {ep : Nat} {tab : List (PySem.Str × PySem.Str)}
    (I : List (PySem.Str × PySem.Str) → Prop) (hh : A.handled = none) (F : Fr h₀ env.locals s.heap m₀) (N : News h₀ env.locals s.heap news) (hl : (l, listO vs ep) ∈ news) (hr : RowsAre news vs tab) (h0 : I tab)
    (ha : env.kindOf a = some .local) (hb : env.kindOf b = some .local) (hp : (env.scope.kind == .class || (env.scope.kind == .module && env.locals != env.globals)) = false)
    (turn : ∀ kv r t1 t2 h tk tk₀ own g, I (kv :: r) → News h₀ env.locals h (own ++ news) →
      Fr h₀ env.locals h (fun y => if y = b then some (.str kv.2 t2) else if y = a then some (.str kv.1 t1) else m₀ y) →
      wpAny (model prog w) A (execs body env) (LoopStep3 h₀ env.locals own news (PairJ news a b m₀ (I r)) { s with heap := g, toks := tk₀ } (fun v s' => Q (.ret v) s') fun s' => Q .next s') E { s with heap := h, toks := tk })
    (done : ∀ u1 u2 h tk, I [] → Fr h₀ env.locals h (fun y => if y = b then u1 else if y = a then u2 else m₀ y) → News h₀ env.locals h news → Q .next { s with heap := h, toks := tk }) :
    wpAny (model prog w) A (pyIter (.ref l)) (fun it s₂ => UnrAt prog w A h₀ env (.Tuple [.Name a pa, .Name b pb] kk tp) body Q E it s₂) E s := by
  refine iter_list_unr hh ⟨_, (N _ hl).1, rfl, _, rfl⟩ F N (N _ hl).2.1 ?_
  rintro s₁ ⟨g₁, rfl⟩
  have hsz : vs.toArray.size = vs.length := by simp
  rw [hsz]
  refine unr_items (fun r m₁ n₁ => n₁ = news ∧ (∃ tab', RowsAre news r tab' ∧ I tab') ∧ ∃ u1 u2, m₁ = fun y => if y = b then u1 else if y = a then u2 else m₀ y) ?_ ?_ vs.length 0 m₀ news (by simp) ⟨rfl, ⟨tab, by simpa using hr, h0⟩, m₀ b, m₀ a, ?_⟩
  · rintro v r m₁ news₁ h₁ tk₁ own ⟨rfl, ⟨tab', hr', hI⟩, u1, u2, rfl⟩ hown F₁ N₁
    cases hr' with
    | @cons _ _ kv tab'' row hr'' =>
      obtain ⟨T, t1, t2, e, rfl, hm⟩ := row
      refine kcp_assign hh ⟨_, (N₁ _ (List.mem_append_right _ hm)).1, rfl, _, rfl⟩ ha hb hp F₁.ns ?_
      intro h₂ tk₂ hn₂ hk₂
      have hL₀ : h₀.get? env.locals = none := Heap.get?_none_of_le F₁.above
      have e₂ : (fun y => if y = b then some (Value.str kv.2 t2) else if y = a then some (Value.str kv.1 t1) else if y = b then u1 else if y = a then u2 else m₀ y) = fun y => if y = b then some (Value.str kv.2 t2) else if y = a then some (Value.str kv.1 t1) else m₀ y := by
        funext y
        by_cases q1 : y = b
        · simp [q1]
        · by_cases q2 : y = a <;> simp [q1, q2]
      rw [e₂] at hn₂
      have F₂ : Fr h₀ env.locals h₂ _ := ⟨hn₂, fun b o e => hk₂ b o (fun q => by rw [q, hL₀] at e; cases e) (F₁.keep b o e), F₁.above⟩
      have N₂ : News h₀ env.locals h₂ (own ++ news₁) := fun p hp => ⟨hk₂ _ _ (N₁ p hp).2.1 (N₁ p hp).1, (N₁ p hp).2⟩
      refine wpAny_mono (turn kv tab'' t1 t2 h₂ tk₂ tk₁ own h₁ hI N₂ F₂) (fun f s₃ h₃ => ?_) fun _ _ e => e
      cases f with
      | ret v => exact h₃
      | brk => exact h₃
      | cont =>
        obtain ⟨e0, h₃', tk₃, m₂, news₂, e1, F₃, N₃, ha₃, e4, hI₃, u⟩ := h₃
        exact ⟨e0, h₃', tk₃, m₂, news₂, e1, F₃, N₃, ha₃, e4, ⟨_, hr'', hI₃⟩, u⟩
      | next =>
        obtain ⟨e0, h₃', tk₃, m₂, news₂, e1, F₃, N₃, ha₃, e4, hI₃, u⟩ := h₃
        exact ⟨e0, h₃', tk₃, m₂, news₂, e1, F₃, N₃, ha₃, e4, ⟨_, hr'', hI₃⟩, u⟩
  · rintro m₁ news₁ h₁ tk₁ ⟨rfl, ⟨tab', hr', hI⟩, u1, u2, rfl⟩ F₁ N₁
    cases hr'
    exact done u1 u2 h₁ tk₁ hI F₁ N₁
  · funext y
    by_cases h1 : y = b
    · subst h1; simp
    · by_cases h2 : y = a
      · subst h2; simp [h1]
      · simp [h1, h2]
end
/-- the ledger with another object at l -/
noncomputable def setAt (l : Addr) (o : Obj) (news : List (Addr × Obj)) : List (Addr × Obj) := news.map fun p => if p.1 = l then (l, o) else p
theorem mem_setAt_of {l : Addr} {o : Obj} {news : List (Addr × Obj)} {p : Addr × Obj} (hp : p ∈ news) (hne : p.1 ≠ l) : p ∈ setAt l o news := List.mem_map.mpr ⟨p, hp, by simp [hne]⟩
theorem mem_setAt_self {l : Addr} {o o₀ : Obj} {news : List (Addr × Obj)} (hp : (l, o₀) ∈ news) : (l, o) ∈ setAt l o news := List.mem_map.mpr ⟨_, hp, by simp⟩
theorem setAt_lt {l a : Addr} {o o₀ : Obj} {news : List (Addr × Obj)} (hl : (l, o₀) ∈ news) (h : ∀ p ∈ news, p.1 < a) : ∀ p ∈ setAt l o news, p.1 < a := by
  intro p hp
  obtain ⟨q, hq, rfl⟩ := List.mem_map.mp hp
  by_cases e : q.1 = l
  · simp only [e, if_true]; exact h _ hl
  · simp only [e, if_false]; exact h _ hq
theorem apart_of {h₀ h : Heap} {L a b : Addr} {o1 o2 : Obj} {news : List (Addr × Obj)} (N : News h₀ L h news) (h1 : (a, o1) ∈ news) (h2 : (b, o2) ∈ news) (hd : o1.cls ≠ o2.cls) : a ≠ b := by
  rintro rfl
  have e1 := (N _ h1).1
  rw [(N _ h2).1] at e1
  exact hd (congrArg Obj.cls (Option.some.inj e1)).symm
theorem RowsAre.set {h₀ h : Heap} {L l : Addr} {o o₀ : Obj} {news : List (Addr × Obj)} {vs tab} (N : News h₀ L h news) (hl : (l, o₀) ∈ news) (hc : o₀.cls = .type "list") (r : RowsAre news vs tab) : RowsAre (setAt l o news) vs tab := by
  induction r with
  | nil => exact .nil
  | cons row _ ih =>
    obtain ⟨a, tk, tv, ep, e, hm⟩ := row
    exact .cons ⟨a, tk, tv, ep, e, mem_setAt_of hm (apart_of N hm hl (by rw [hc]; intro e; exact absurd (Value.type.inj e) (by decide)))⟩ ih
section
variable {prog : PySem.Program} {w : World} {A : Around} {E : Value → Shared → Prop} {s : Shared} {h₀ : Heap} {L l : Addr} {m : PySem.Str → Option Value} {news : List (Addr × Obj)}
theorem news_setAt {h h' : Heap} {o o₀ : Obj} (N : News h₀ L h news) (hm : (l, o₀) ∈ news) (hs : Heap.SameBut l h h') (ho : h'.get? l = some o) : News h₀ L h' (setAt l o news) := by
  intro p hp
  obtain ⟨q, hq, rfl⟩ := List.mem_map.mp hp
  by_cases e : q.1 = l
  · simp only [e, if_true]; exact ⟨ho, (N _ hm).2⟩
  · simp only [e, if_false]; exact ⟨(hs.2 _ e).trans (N _ hq).1, (N _ hq).2⟩
theorem append_in {vs : List Value} {n : Nat} {x : Value} {Q : Value → Shared → Prop} (F : Fr h₀ L s.heap m) (N : News h₀ L s.heap news) (hm : (l, listO vs n) ∈ news) (hsz : vs.length ≤ 1000)
    (h : ∀ h', Fr h₀ L h' m → News h₀ L h' (setAt l (listO (vs ++ [x]) (n + 1)) news) → Q .none { s with heap := h' }) : wpAny (model prog w) A (call (.builtin "list.append") [.ref l, x]) Q E s := by
  have z := N _ hm
  have e : (PySem.W.listOf (vs.toArray.push x) (n + 1)) = listO (vs ++ [x]) (n + 1) := by simp [PySem.W.listOf, listO]
  exact append_at (hsz := by rw [List.size_toArray, sizeLine_eq]; lia) z.1 fun h' hs ho' => h h' (F.change hs z.2.1 z.2.2) (news_setAt N hm hs (e ▸ ho'))
end
section
variable {prog : PySem.Program} {w : World} {A : Around} {E : Value → Shared → Prop} {s : Shared}
theorem slice_noindex : typeLookup (.type "slice") "__index__" = pure none := by rw [typeLookup_type, builtinLookup_eq_fast]; kernel_rfl
theorem slice_all {l : Addr} {f : Array Value → Array Value} {xs ys : Array Value} {n : Nat} {h : Heap} (e : f xs = ys) (hl : h.get? l = some { cls := .type "list", data := .seq xs n }) :
    ∃ n', (h.update l (Obj.mapSeq f)).get? l = some { cls := .type "list", data := .seq ys n' } := by
  subst e
  exact ⟨if (f xs).size == xs.size then n else n + 1, (Heap.get?_update_self _ hl rfl).trans rfl⟩
theorem slice_set {l sl D : Addr} {vs ys : List Value} {n k : Nat} {Q : Fin → Shared → Prop} (hl : s.heap.get? l = some { cls := .type "list", data := .seq vs.toArray n }) (hD : s.heap.get? D = some { cls := .type "list", data := .seq ys.toArray k })
    (hs : s.heap.get? sl = some { cls := .type "slice", data := .fields #[.none, .none, .none] }) (hne : l ≠ D) (hv : vs.length ≤ 1000) (hy : ys.length ≤ 1000)
    (h : ∀ h' n', h'.get? l = some { cls := .type "list", data := .seq ys.toArray n' } → Heap.SameBut l s.heap h' → Q (.done (.ret .none)) { s with heap := h' }) :
    wpAny (model prog w) A (Builtin.«list.__setitem__» ⟨[.ref l, .ref sl, .ref D], []⟩) Q E s := by
  obtain ⟨hh, g, d, t, os⟩ := s
  have hT1 : (⟨hh, g, d, t, os⟩ : Shared).TypeIs (.ref l) "list" := ⟨_, hl, rfl⟩
  have hT2 : (⟨hh, g, d, t, os⟩ : Shared).TypeIs (.ref D) "list" := ⟨_, hD, rfl⟩
  have hT3 : (⟨hh, g, d, t, os⟩ : Shared).TypeIs (.ref sl) "slice" := ⟨_, hs, rfl⟩
  have hni := slice_noindex
  have hsame : Builtin.List.listSameRef (.ref l) (.ref D) = false := by simp [Builtin.List.listSameRef, hne]
  have hlong : Builtin.List.listTooLong (vs.toArray.size + ys.toArray.size) = false := by simp [Builtin.List.listTooLong, sizeLine_eq]; lia
  repeat (any_goals (first | assumption | (with_reducible refine wpAny_updateSeq (f := _) hl rfl ?_ (by rw [List.size_toArray, sizeLine_eq]; lia) (by simp only [Array.size_append, Array.size_extract, List.size_toArray, sizeLine_eq]; lia)) | (with_reducible refine wpAny_letGo ?_) | (rw [if_neg (by rw [hlong]; exact Bool.false_ne_true)]) | wp_step))
  exact h _ _ (Exists.choose_spec (slice_all (ys := ys.toArray) (by simp) hl)) (Heap.SameBut.update ..)
noncomputable abbrev sliceO : Obj := { cls := .type "slice", data := .fields #[.none, .none, .none] }
theorem setItem_slice {h₀ hX : Heap} {g : Array GenState} {d : Drawn} {t : Nat} {os : OsState} {L l D : Addr} {m : PySem.Str → Option Value} {news : List (Addr × Obj)} {vs ys : List Value} {n k : Nat} {Q : Unit → Shared → Prop} (F : Fr h₀ L hX m) (N : News h₀ L hX news)
    (hl : (l, listO vs n) ∈ news) (hD : (D, listO ys k) ∈ news) (hne : l ≠ D) (hv : vs.length ≤ 1000) (hy : ys.length ≤ 1000)
    (h : ∀ h' n', Fr h₀ L h' m → News h₀ L h' (setAt l (listO ys n') news) → Q () ⟨h', g, d, t, os⟩) :
    wpAny (model prog w) A (setItem (.ref l) (.ref hX.objs.size) (.ref D)) Q E ⟨hX.push sliceO, g, d, t, os⟩ := by
  have F' := F.push sliceO
  have N' : News h₀ L (hX.push sliceO) news := N.grown fun b o e => Heap.get?_push_of_some _ e
  have hl' : (hX.push sliceO).IsList l vs.toArray := ⟨_, (N' _ hl).1, rfl, _, rfl⟩
  unfold setItem
  refine wpAny_holding ?_
  refine wpAny_bind (wpAny_sequenceKey hl'.typeIs (by decide) ?_)
  refine wpAny_bind (wpAny_callSpecial?_slot (name := PySem.Str.ofString "__setitem__") hl'.typeIs slot_list_setitem
    (wpAny_call_entry slot_list_setitem hl'.typeIs entry_list_setitem ?_ (args_list_setitem _ _ _)))
  refine slice_set (N' _ hl).1 (N' _ hD).1 (Heap.get?_push_size _ rfl) hne hv hy fun h' n' e hs => ⟨.none, rfl, wpAny_pure (h h' n' (F'.change hs (N' _ hl).2.1 (N' _ hl).2.2) (news_setAt N' hl hs e))⟩
end
theorem off1_ne {D : Addr} : ∀ {l : List (Addr × Obj)}, PyProof.Rows.LCg.Off1 D l → ∀ p ∈ l, p.1 ≠ D
  | [], _, _, h => nomatch h
  | _ :: _, x, p, h => by
    rcases List.mem_cons.mp h with rfl | h
    · exact x.1
    · exact off1_ne x.2 p h
end Mine88
end

-- part P4b
section
open PySem PySem.W PyProof.Rows PySem.Spec PySem.Calls
set_option maxRecDepth 100000
set_option maxHeartbeats 8000000
namespace Mine88
open PyProof.Rows.LCg PyProof.Rows.LCt
/-- splits are made while the goal is hidden: a split copies the goal at every level -/
theorem hideGoal {R : Prop} (h : ∀ G : Prop, (R → G) → G) : R := h R id
theorem hideQ {α : Type} {M : Model} {A : Around} {t : Sem α} {Q : α → Shared → Prop} {E : Value → Shared → Prop} {s : Shared} (h : ∀ Q' : α → Shared → Prop, (∀ a s', Q a s' → Q' a s') → wpAny M A t Q' E s) : wpAny M A t Q E s := h Q fun _ _ x => x
/-- the end of a comprehension's turn that keeps the ledger -/
noncomputable def PEnd (h₀ : Heap) (L : Addr) (m : PySem.Str → Option Value) (s₁ : Shared) (led : List (Addr × Obj)) (J : Value → Prop) (y : Value) (s₂ : Shared) : Prop :=
  ∃ h' tk, s₂ = { s₁ with heap := h', toks := tk } ∧ Fr h₀ L h' m ∧ News h₀ L h' led ∧ J y
theorem PEnd.intro {h₀ : Heap} {L : Addr} {m : PySem.Str → Option Value} {s₁ : Shared} {led led' : List (Addr × Obj)} {J : Value → Prop} {y : Value} {h' : Heap} {tk : Nat} (F : Fr h₀ L h' m) (N : News h₀ L h' led') (hs : ∀ p ∈ led, p ∈ led') (j : J y) :
    PEnd h₀ L m s₁ led J y { s₁ with heap := h', toks := tk } := ⟨h', tk, rfl, F, fun p hp => N p (hs p hp), j⟩
theorem PEnd.comp {h₀ : Heap} {L : Addr} {m : PySem.Str → Option Value} {s₁ s₂ : Shared} {I C D : Addr} {oI oC oD : Obj} {news : List (Addr × Obj)} {J : Value → Prop} {S : List (Addr × Obj) → Prop} {rest : Value → List (Addr × Obj) → Prop} {y : Value}
    (p : PEnd h₀ L m s₁ ((I, oI) :: (C, oC) :: (D, oD) :: news) J y s₂) (off : Off3 I C D news) (hS : S news) (h : ∀ y, J y → rest y news) : CompEnd h₀ L m s₁ I oI C oC D oD S rest y s₂ := by
  obtain ⟨h', tk, rfl, F, N, j⟩ := p
  exact ⟨h', tk, news, rfl, F, N, off, hS, h _ j⟩
section
variable {prog : PySem.Program} {w : World} {A : Around} {s : Shared} {env : Env} {h₀ : Heap} {L : Addr} {m : PySem.Str → Option Value}
/-- a comprehension over a list of the ledger, that keeps the ledger -/
theorem compU_src {elt : PySem.Expr} {x : PySem.Str} {scope : Scope} {cl : List (PySem.Str × Addr)} {Fin : Shared → List Value → List (Addr × Obj) → Prop} {ax : Addr} {vs : List Value} {ep : Nat} {news : List (Addr × Obj)} (J : List Value → List Value → Prop)
    (hh : A.handled = none) (F : Fr h₀ L s.heap m) (N : News h₀ L s.heap news) (hm : (ax, listO vs ep) ∈ news) (hsz : vs.length ≤ 1000) (h0 : J vs [])
    (turn : ∀ v r ys I oI C oC D m₂ h tk (E' : Value → Shared → Prop), J (v :: r) ys → NsObj oC m₂ → m₂ x = some v → Fr h₀ L h m → News h₀ L h ((I, oI) :: (C, oC) :: (D, lst ys) :: news) → Off3 I C D news → ((@Ne Nat I C) ∧ (@Ne Nat I D) ∧ (@Ne Nat C D)) →
      wpAny (model prog w) A (eval elt (compEnvC scope cl C env)) (PEnd h₀ L m { s with heap := h, toks := tk } ((I, oI) :: (C, oC) :: (D, lst ys) :: news) (fun y => J r (ys ++ [y]))) E' { s with heap := h, toks := tk })
    (fin : ∀ g ys, J [] ys → Fin { s with heap := g } ys news) : CompSrc prog w A h₀ L m env elt x scope cl Fin (.ref ax) s := by
  refine CompSrc.ledger hh F N hm (by rw [List.size_toArray, sizeLine_eq]; lia) fun g => ?_
  have hS : SrcAt h₀ ax vs.toArray news := .inr ⟨_, hm, rfl, _, rfl⟩
  have all : ∀ (k i : Nat) (ys : List Value), i + k = vs.length → J (vs.drop i) ys → CompRest prog w A h₀ L m env elt x scope cl { s with heap := g } (SrcAt h₀ ax vs.toArray) (fun i v => vs.toArray[i]? = some v) (Fin { s with heap := g }) k i ys news := by
    intro k
    induction k with
    | zero =>
      intro i ys hi hJ
      rw [List.drop_eq_nil_of_le (by lia)] at hJ
      exact CompRest.zero (fin g ys hJ)
    | succ k ih =>
      intro i ys hi hJ
      have hlt : i < vs.length := by lia
      rw [List.drop_eq_getElem_cons hlt] at hJ
      refine CompRest.succ ?_
      intro v I oI C oC D m₂ h tk E' hv hC hx F' N' off ne
      have e : vs[i] = v := by
        have hv' : vs[i]? = some v := by simpa using hv
        rw [List.getElem?_eq_getElem hlt] at hv'
        exact Option.some.inj hv'
      subst e
      exact wpAny_mono (turn _ _ ys I oI C oC D m₂ h tk E' hJ hC hx F' N' off ne) (fun y s₂ p => p.comp off hS fun y hy => ih (i + 1) _ (by lia) hy) fun _ _ e => e
  exact all _ 0 [] (by simp) (by simpa using h0)
/-- a comprehension over a range by ones, that keeps the ledger: J of the ints left -/
theorem compU_range {elt : PySem.Expr} {x : PySem.Str} {scope : Scope} {cl : List (PySem.Str × Addr)} {Fin : Shared → List Value → List (Addr × Obj) → Prop} {rr : Addr} {a b : Int} {t u v : Tok} {n : Nat} {news : List (Addr × Obj)} (J : Nat → List Value → Prop)
    (hh : A.handled = none) (F : Fr h₀ L s.heap m) (N : News h₀ L s.heap news) (hr : IsRange s.heap rr a b 1 t u v) (hsm : Builtin.Range.small a b 1 = true) (hn : Builtin.Range.rangeSize a b 1 = ((n : Nat) : Int)) (hsz : n ≤ 1000) (h0 : J 0 [])
    (turn : ∀ i tk₀ ys I oI C oC D m₂ h tk (E' : Value → Shared → Prop), i < n → J i ys → NsObj oC m₂ → m₂ x = some (.int (a + (i : Int)) tk₀) → Fr h₀ L h m → News h₀ L h ((I, oI) :: (C, oC) :: (D, lst ys) :: news) → Off3 I C D news → ((@Ne Nat I C) ∧ (@Ne Nat I D) ∧ (@Ne Nat C D)) →
      wpAny (model prog w) A (eval elt (compEnvC scope cl C env)) (PEnd h₀ L m { s with heap := h, toks := tk } ((I, oI) :: (C, oC) :: (D, lst ys) :: news) (fun y => J (i + 1) (ys ++ [y]))) E' { s with heap := h, toks := tk })
    (fin : ∀ g ys, J n ys → Fin { s with heap := g } ys news) : CompSrc prog w A h₀ L m env elt x scope cl Fin (.ref rr) s := by
  refine CompSrc.range hh F N hr hsm hn (by rw [sizeLine_eq]; lia) fun g => ?_
  have all : ∀ (k i : Nat) (ys : List Value), i + k = n → J i ys → CompRest prog w A h₀ L m env elt x scope cl { s with heap := g } (fun _ => True) (fun i v => ∃ t, v = .int (a + (i : Int)) t) (Fin { s with heap := g }) k i ys news := by
    intro k
    induction k with
    | zero =>
      intro i ys hi hJ
      obtain rfl : i = n := by lia
      exact CompRest.zero (fin g ys hJ)
    | succ k ih =>
      intro i ys hi hJ
      refine CompRest.succ ?_
      rintro v I oI C oC D m₂ h tk E' ⟨tk₀, rfl⟩ hC hx F' N' off ne
      exact wpAny_mono (turn i tk₀ ys I oI C oC D m₂ h tk E' (by lia) hJ hC hx F' N' off ne) (fun y s₂ p => p.comp off trivial fun y hy => ih (i + 1) _ (by lia) hy) fun _ _ e => e
  exact all n 0 [] (by lia) h0
/-- a comprehension with a test over a list of the ledger, that keeps the ledger -/
theorem compT_src {ct elt : PySem.Expr} {x : PySem.Str} {scope : Scope} {cl : List (PySem.Str × Addr)} {Fin : Shared → List Value → List (Addr × Obj) → Prop} {ax : Addr} {vs : List Value} {ep : Nat} {news : List (Addr × Obj)} (J : List Value → List Value → Prop)
    (hh : A.handled = none) (F : Fr h₀ L s.heap m) (N : News h₀ L s.heap news) (hm : (ax, listO vs ep) ∈ news) (hsz : vs.length ≤ 1000) (h0 : J vs [])
    (turn : ∀ v r ys I oI C oC D m₂ h tk (E' : Value → Shared → Prop), J (v :: r) ys → NsObj oC m₂ → m₂ x = some v → Fr h₀ L h m → News h₀ L h ((I, oI) :: (C, oC) :: (D, lst ys) :: news) → Off3 I C D news → ((@Ne Nat I C) ∧ (@Ne Nat I D) ∧ (@Ne Nat C D)) →
      wpAny (model prog w) A (isTrue ct (compEnvC scope cl C env) (eval ct (compEnvC scope cl C env))) (fun ok s' => if ok = true then
        wpAny (model prog w) A (eval elt (compEnvC scope cl C env)) (PEnd h₀ L m { s with heap := h, toks := tk } ((I, oI) :: (C, oC) :: (D, lst ys) :: news) (fun y => J r (ys ++ [y]))) E' s'
        else PEnd h₀ L m { s with heap := h, toks := tk } ((I, oI) :: (C, oC) :: (D, lst ys) :: news) (fun _ => J r ys) Value.none s') E' { s with heap := h, toks := tk })
    (fin : ∀ g ys, J [] ys → Fin { s with heap := g } ys news) : CompSrcT prog w A h₀ L m env ct elt x scope cl Fin (.ref ax) s := by
  refine CompSrcT.ledger hh F N hm (by rw [List.size_toArray, sizeLine_eq]; lia) fun g => ?_
  have hS : SrcAt h₀ ax vs.toArray news := .inr ⟨_, hm, rfl, _, rfl⟩
  have all : ∀ (k i : Nat) (ys : List Value), i + k = vs.length → J (vs.drop i) ys → CompRestT prog w A h₀ L m env ct elt x scope cl { s with heap := g } (SrcAt h₀ ax vs.toArray) (fun i v => vs.toArray[i]? = some v) (Fin { s with heap := g }) k i ys news := by
    intro k
    induction k with
    | zero =>
      intro i ys hi hJ
      rw [List.drop_eq_nil_of_le (by lia)] at hJ
      exact CompRestT.zero (fin g ys hJ)
    | succ k ih =>
      intro i ys hi hJ
      have hlt : i < vs.length := by lia
      rw [List.drop_eq_getElem_cons hlt] at hJ
      refine CompRestT.succ ?_
      intro v I oI C oC D m₂ h tk E' hv hC hx F' N' off ne
      have e : vs[i] = v := by
        have hv' : vs[i]? = some v := by simpa using hv
        rw [List.getElem?_eq_getElem hlt] at hv'
        exact Option.some.inj hv'
      subst e
      refine wpAny_mono (turn _ _ ys I oI C oC D m₂ h tk E' hJ hC hx F' N' off ne) (fun ok s' z => ?_) fun _ _ e => e
      split at z
      · rename_i q; rw [if_pos q]
        exact wpAny_mono z (fun y s₂ p => p.comp off hS fun y hy => ih (i + 1) _ (by lia) hy) fun _ _ e => e
      · rename_i q; rw [if_neg q]
        exact z.comp off hS fun y hy => ih (i + 1) _ (by lia) hy
  exact all _ 0 [] (by simp) (by simpa using h0)
end
end Mine88
end

-- part P20
section
open PySem PySem.W PyProof.Rows PySem.Spec PySem.Calls
set_option maxRecDepth 100000
set_option maxHeartbeats 8000000
namespace Mine88
open PyProof.Rows.LCg
/-! comprehensions whose target is captured by a comprehension within -/
noncomputable abbrev TestsT (ifs : List PySem.Expr) (env : Env) : Sem Bool := forIn ifs true fun c r => if r = true then do let ok ← isTrue c env (eval c env); pure (ForInStep.yield ok) else pure (ForInStep.yield r)
/-- the end of a turn -/
noncomputable def EndC (h₀ : Heap) (L : Addr) (m : PySem.Str → Option Value) (s₁ : Shared) (I : Addr) (oI : Obj) (C : Addr) (oC : Obj) (D : Addr) (oD : Obj) (c : Addr) (oc : Obj) (S : List (Addr × Obj) → Prop) (rest : Value → List (Addr × Obj) → Prop) (y : Value) (s₂ : Shared) : Prop :=
  ∃ h' tk news', s₂ = { s₁ with heap := h', toks := tk } ∧ Fr h₀ L h' m ∧ News h₀ L h' ((I, oI) :: (C, oC) :: (D, oD) :: (c, oc) :: news') ∧ Off3 I C D news' ∧ Off1 c news' ∧ S news' ∧ rest y news'
theorem EndC.intro {h₀ : Heap} {L I C D c : Addr} {m : PySem.Str → Option Value} {s₁ : Shared} {oI oC oD oc : Obj} {S : List (Addr × Obj) → Prop} {rest : Value → List (Addr × Obj) → Prop} {y : Value} {h' : Heap} {tk : Nat} {all : List (Addr × Obj)}
    (F : Fr h₀ L h' m) (N : News h₀ L h' all) (news' : List (Addr × Obj)) (sub : ∀ p ∈ (I, oI) :: (C, oC) :: (D, oD) :: (c, oc) :: news', p ∈ all) (off : Off3 I C D news') (o1 : Off1 c news') (hS : S news') (r : rest y news') :
    EndC h₀ L m s₁ I oI C oC D oD c oc S rest y { s₁ with heap := h', toks := tk } := ⟨h', tk, news', rfl, F, fun p hp => N p (sub p hp), off, o1, hS, r⟩
noncomputable abbrev Apart6 (I C D c : Addr) : Prop := (@Ne Nat I C) ∧ (@Ne Nat I D) ∧ (@Ne Nat C D) ∧ (@Ne Nat c I) ∧ (@Ne Nat c C) ∧ (@Ne Nat c D)
noncomputable def RestC (prog : PySem.Program) (w : World) (A : Around) (h₀ : Heap) (L : Addr) (m : PySem.Str → Option Value) (env : Env) (ifs : List PySem.Expr) (elt : PySem.Expr) (x : PySem.Str) (scope : Scope) (cl : List (PySem.Str × Addr)) (s : Shared) (S : List (Addr × Obj) → Prop) (P : Nat → Value → Prop)
    (Fin : List Value → List (Addr × Obj) → Prop) : Nat → Nat → List Value → List (Addr × Obj) → Prop
  | 0, _, ys, news => Fin ys news
  | k + 1, i, ys, news => ∀ v I oI C oC D c oc h tk (E' : Value → Shared → Prop), P i v → NsObj oC (fun _ => none) → oc.data = .cell (some v) → Fr h₀ L h m → News h₀ L h ((I, oI) :: (C, oC) :: (D, lst ys) :: (c, oc) :: news) → Off3 I C D news → Off1 c news → Apart6 I C D c →
      wpAny (model prog w) A (TestsT ifs (compEnvC scope ((x, c) :: cl) C env)) (fun ok s' => if ok = true then
        wpAny (model prog w) A (eval elt (compEnvC scope ((x, c) :: cl) C env)) (EndC h₀ L m { s with heap := h, toks := tk } I oI C oC D (lst ys) c oc S (fun y news' => RestC prog w A h₀ L m env ifs elt x scope cl s S P Fin k (i + 1) (ys ++ [y]) news')) E' s'
        else EndC h₀ L m { s with heap := h, toks := tk } I oI C oC D (lst ys) c oc S (fun _ news' => RestC prog w A h₀ L m env ifs elt x scope cl s S P Fin k (i + 1) ys news') Value.none s') E' { s with heap := h, toks := tk }
noncomputable abbrev cellNone : Obj := { cls := .type "cell", data := .cell none }
theorem newEnv_cell1 {M : Model} {A : Around} {E : Value → Shared → Prop} {s : Shared} {scope : Scope} {globals : Addr} {cl : List (PySem.Str × Addr)} {x : PySem.Str} {qual : PySem.Str} {func : Option Addr} {code : Value} {outer : Env} {builtins : Addr} {Q : Env → Shared → Prop}
    (hcf : ∀ n, cellsFrom n scope.names cl = (x, n) :: cl) (hpc : ∀ h, pushCells h scope.names = h.push cellNone)
    (hQ : Q (newEnv scope s.heap.objs.size globals ((x, s.heap.objs.size + 1) :: cl) qual func code (some outer) builtins) { s with heap := (s.heap.push { cls := .type "dict", data := .dict #[] }).push cellNone }) :
    wpAny M A (newFunctionEnv scope globals cl [] qual func code (some outer) builtins) Q E s := by
  simp only [newFunctionEnv, Option.isSome_some, if_true]
  refine wpAny_bind (wpAny_alloc ?_)
  refine wpAny_bind (wpAny_layCells _ (fun name kind cells => by cases hkc : kind == NameKind.cell <;> simp [hkc]) _ _ _ _ ?_)
  rw [show ({ s with heap := s.heap.push { cls := .type "dict", data := .dict #[] } } : Shared).heap.objs.size = s.heap.objs.size + 1 from Heap.size_push .., hcf, hpc]
  simp only [List.forIn_nil]
  exact wpAny_bind (wpAny_pure (wpAny_pure hQ))
theorem lookup_relabel_cell {env : Env} : ∀ {names : List (PySem.Str × NameKind)} {x : PySem.Str}, names.lookup x = some .cell →
    (names.map fun (n, k) => if (k == NameKind.free && env.scope.kind == .function && env.kindOf n == some .cell) then (n, NameKind.cell) else (n, k)).lookup x = some .cell
  | [], _, h => by simp at h
  | (n, k) :: r, x, h => by
    have ih := @lookup_relabel_cell env r x
    show List.lookup x ((if (k == NameKind.free && env.scope.kind == .function && env.kindOf n == some .cell) = true then (n, NameKind.cell) else (n, k)) :: _) = _
    cases hx : x == n with
    | true =>
      simp only [List.lookup_cons, hx] at h
      cases h
      simp [List.lookup_cons, hx]
    | false =>
      simp only [List.lookup_cons, hx] at h
      by_cases hc : (k == NameKind.free && env.scope.kind == .function && env.kindOf n == some .cell) = true
      · rw [if_pos hc]; simp only [List.lookup_cons, hx]; exact ih h
      · rw [if_neg hc]; simp only [List.lookup_cons, hx]; exact ih h
section
variable {prog : PySem.Program} {w : World} {A : Around} {E : Value → Shared → Prop} {s : Shared} {h₀ : Heap} {L : Addr} {m : PySem.Str → Option Value} {env : Env}
theorem block_C {elt iter : PySem.Expr} {ifs : List PySem.Expr} {x : PySem.Str} {px : Pos} {scope : Scope} {cl : List (PySem.Str × Addr)} {pos : Pos} {s₂ : Shared} {I : Addr} {fp : List Addr} {n : Nat} {P : Nat → Value → Prop} {St : Nat → Heap → Prop} {S : List (Addr × Obj) → Prop} {news : List (Addr × Obj)}
    {Fin : List Value → List (Addr × Obj) → Prop} {RR : Value → Addr → Result → Shared → Prop}
    (W : Walks prog w A I fp [I] n P St) (hsz : n ≤ sizeLine) (hIo : ∀ i h, St i h → ∃ o, h.get? I = some o)
    (hSt : ∀ i h h' o nw, St i h → h.get? I = some o → h'.get? I = some o → (∀ b o, h₀.get? b = some o → h'.get? b = some o) → News h₀ L h' nw → S nw → St i h')
    (hcf : ∀ n, cellsFrom n scope.names cl = (x, n) :: cl) (hpc : ∀ h, pushCells h scope.names = h.push cellNone) (hkind : scope.kind = .function) (hx : scope.names.lookup x = some .cell) (hst : St 0 s₂.heap) (hfp : ∀ b ∈ fp, b < s₂.heap.objs.size)
    (F : Fr h₀ L s₂.heap m) (N : News h₀ L s₂.heap news) (hIL : L ≠ I) (hI₀ : h₀.get? I = none) (off : ∀ p ∈ news, p.1 ≠ I) (hS : S news)
    (R : RestC prog w A h₀ L m env ifs elt x scope cl s₂ S P Fin n 0 [] news)
    (hRR : ∀ D C h tk m' ys news', Fr h₀ L h m → News h₀ L h ((D, lst ys) :: news') → Off1 D news' → h.Ns C m' → h₀.get? C = none → h₀.get? D = none → C ≠ L → D ≠ L → C ≠ D → (∀ p ∈ news', p.1 ≠ C) → Fin ys news' → RR (.ref D) C (.ok .next) { s₂ with heap := h, toks := tk }) :
    wpAny (model prog w) A (newList []) (fun acc s₃ => wpAny (model prog w) A (newFunctionEnv scope env.globals cl [] env.qual none .none (some env)) (fun cenv s₄ =>
      codeAny (model prog w) A (.compStart (.ListComp elt [⟨.Name x px, iter, ifs, 0⟩] scope pos) 0 (.ref I) acc { cenv with scope := relabel scope env }) (RR acc cenv.locals) s₄) E s₃) E s₂ := by
  refine wpAny_newObj_type (newEnv_cell1 hcf hpc ?_)
  dsimp only
  generalize hH2 : s₂.heap.push { cls := .type "list", dict := none, data := .seq ([] : List Value).toArray } = H2
  have hC : H2.objs.size = s₂.heap.objs.size + 1 := by rw [← hH2, Heap.size_push]
  have hDC : s₂.heap.objs.size ≠ H2.objs.size := by rw [hC]; exact Nat.ne_of_lt (Nat.lt_succ_self _)
  generalize hcA : H2.objs.size + 1 = c
  have hcC : c ≠ H2.objs.size := by rw [← hcA]; exact Nat.ne_of_gt (Nat.lt_succ_self _)
  have hcD : c ≠ s₂.heap.objs.size := by rw [← hcA, hC]; exact Nat.ne_of_gt (Nat.lt_succ_of_lt (Nat.lt_succ_self _))
  have below : ∀ b, b < s₂.heap.objs.size → b ≠ H2.objs.size ∧ b ≠ s₂.heap.objs.size ∧ b ≠ c := fun b hb => ⟨by rw [hC]; exact Nat.ne_of_lt (Nat.lt_succ_of_lt hb), Nat.ne_of_lt hb, by rw [← hcA, hC]; exact Nat.ne_of_lt (Nat.lt_succ_of_lt (Nat.lt_succ_of_lt hb))⟩
  have hDf : s₂.heap.objs.size ∉ fp := fun hm => Nat.lt_irrefl _ (hfp _ hm)
  have hcf' : c ∉ fp := fun hm => (below _ (hfp _ hm)).2.2 rfl
  have hIf : I ∈ fp := W.sub I (List.mem_singleton.mpr rfl)
  have hIlt : I < s₂.heap.objs.size := hfp I hIf
  generalize hh1 : (H2.push { cls := .type "dict", data := .dict #[] }).push cellNone = h₁
  have old : ∀ b o, s₂.heap.get? b = some o → h₁.get? b = some o := fun b o e => by
    rw [← hh1]; exact Heap.get?_push_of_some _ (Heap.get?_push_of_some _ (hH2 ▸ Heap.get?_push_of_some _ e))
  have hacc : h₁.get? s₂.heap.objs.size = some (lst []) := by
    rw [← hh1]; exact Heap.get?_push_of_some _ (Heap.get?_push_of_some _ (hH2 ▸ Heap.get?_push_size _ rfl))
  have hns₁ : h₁.Ns H2.objs.size (fun _ => none) := by
    rw [← hh1]; exact (Heap.Ns.new H2 (.type "dict")).keeps fun b o e => Heap.get?_push_of_some _ e
  have hc₁ : h₁.IsCell c none := by
    rw [← hh1, ← hcA]
    refine ⟨cellNone, ?_, rfl⟩
    have := Heap.get?_push_size (H2.push { cls := .type "dict", data := .dict #[] }) (o := cellNone) rfl
    rwa [Heap.size_push] at this
  have hst₁ : St 0 h₁ := W.frame _ _ _ hst fun b _ o e => old b o e
  have fresh : ∀ a, s₂.heap.objs.size ≤ a → s₂.heap.get? a = none := fun a ha => by
    cases e : s₂.heap.get? a with
    | none => rfl
    | some o' => exact absurd (Heap.lt_size e) (Nat.not_lt.mpr ha)
  have fresh₀ : ∀ a, s₂.heap.objs.size ≤ a → h₀.get? a = none := fun a ha => by
    cases e : h₀.get? a with
    | none => rfl
    | some o' => have := F.keep a o' e; rw [fresh a ha] at this; cases this
  have hD₀ : h₀.get? s₂.heap.objs.size = none := fresh₀ _ (Nat.le_refl _)
  have hC₀ : h₀.get? H2.objs.size = none := fresh₀ _ (by rw [hC]; exact Nat.le_succ _)
  have hc₀ : h₀.get? c = none := fresh₀ _ (by rw [← hcA, hC]; exact Nat.le_succ_of_le (Nat.le_succ _))
  have hLlt : L < s₂.heap.objs.size := F.ns.lt
  have hDL : s₂.heap.objs.size ≠ L := Ne.symm (below L hLlt).2.1
  have hCL : H2.objs.size ≠ L := Ne.symm (below L hLlt).1
  have hcL : c ≠ L := Ne.symm (below L hLlt).2.2
  have hCI : I ≠ H2.objs.size := (below I hIlt).1
  have hDI : I ≠ s₂.heap.objs.size := (below I hIlt).2.1
  have hcI : c ≠ I := Ne.symm (below I hIlt).2.2
  have off₀ : Off3 I H2.objs.size s₂.heap.objs.size news := Off3.of fun p hp => ⟨off p hp, (below _ (Heap.lt_size (N p hp).1)).1, (below _ (Heap.lt_size (N p hp).1)).2.1⟩
  have offc₀ : Off1 c news := by
    have : ∀ l : List (Addr × Obj), (∀ p ∈ l, p.1 ≠ c) → Off1 c l := by
      intro l
      induction l with
      | nil => intro _; trivial
      | cons q r ih => intro h; exact ⟨h q (List.mem_cons_self ..), ih fun p hp => h p (List.mem_cons_of_mem _ hp)⟩
    exact this news fun p hp => (below _ (Heap.lt_size (N p hp).1)).2.2
  have off1 : ∀ {l : List (Addr × Obj)}, Off1 c l → ∀ p ∈ l, p.1 ≠ c := by
    intro l
    induction l with
    | nil => intro _ p hp; cases hp
    | cons q r ih =>
      intro h p hp
      refine hideGoal fun G9 back9 => ?_
      rcases List.mem_cons.mp hp with rfl | hp
      · refine back9 ?_
        clear back9 G9
        exact h.1
      · refine back9 ?_
        clear back9 G9
        exact ih h.2 p hp
  have loop : ∀ s₃ : Shared, s₃ = { s₂ with heap := h₁ } →
      codeAny (model prog w) A (.compLoop (.ListComp elt [⟨.Name x px, iter, ifs, 0⟩] scope pos) 0 (.ref I) (.ref s₂.heap.objs.size) (compEnvC scope ((x, c) :: cl) H2.objs.size env))
        (RR (.ref s₂.heap.objs.size) H2.objs.size) s₃ := by
    rintro s₃ rfl
    refine codeAny_compLoop_tests
      (fun k s' => ∃ h' tk i ys v₀ news', s' = { s₂ with heap := h', toks := tk } ∧ i ≤ n ∧ k = n + 1 - i ∧ ys.length ≤ i ∧ St i h' ∧ Fr h₀ L h' m ∧ h'.Ns H2.objs.size (fun _ => none) ∧ h'.IsCell c v₀ ∧ News h₀ L h' ((s₂.heap.objs.size, lst ys) :: news') ∧
        Off3 I H2.objs.size s₂.heap.objs.size news' ∧ Off1 c news' ∧ S news' ∧ RestC prog w A h₀ L m env ifs elt x scope cl s₂ S P Fin (n - i) i ys news') ?_ (n + 1)
      ⟨h₁, s₂.toks, 0, [], none, news, rfl, Nat.zero_le _, rfl, Nat.le_refl _, hst₁, F.keeps old, hns₁, hc₁, fun p hp => ?_, off₀, offc₀, hS, R⟩
    · intro k s' x9
      refine hideGoal fun G9 back9 => ?_
      obtain ⟨h', tk, i, ys, v₀, news', rfl, hi, rfl, hyl, hst', F', hn', hc', N', off', offc', hS', R'⟩ := x9
      refine back9 ?_
      clear back9 G9
      by_cases hlt : i < n
      · obtain ⟨j, hj⟩ : ∃ j, n - i = j + 1 := ⟨n - i - 1, by omega⟩
        rw [hj] at R'
        refine W.item i _ _ _ hlt hst' fun v h₂ tk₂ hPv hst₂ hk₂ => ?_
        have hc₂ : h₂.IsCell c v₀ := by obtain ⟨o, e, d⟩ := hc'; exact ⟨o, hk₂ _ o (by simpa using hcI) e, d⟩
        refine wpAny_assign_Name (wpAny_storeName_cell (c := c) (by simpa [compEnvC, relabel] using hkind) (lookup_relabel_cell hx) (by simp [compEnvC]) hc₂ fun h₃ hc₃ hs₃ => ?_)
        have hst₃ : St (i + 1) h₃ := W.frame _ _ _ hst₂ fun b hb o e => hs₃.extBut b o (fun q => hcf' (by have q' : b = c := q; rw [← q']; exact hb)) e
        refine hideGoal fun G9 back9 => ?_
        obtain ⟨oI, heI⟩ := hIo _ _ hst₃
        have hn₂ := hn'.at' (h' := h₂) fun o e => hk₂ _ o (by simpa using Ne.symm hCI) e
        have hn₃ := hn₂.sameBut hs₃ (Ne.symm hcC)
        obtain ⟨oC, heC, hoC⟩ := ns_obj hn₃
        obtain ⟨oc, hec, hoc⟩ := hc₃
        have F₃ : Fr h₀ L h₃ m := (fr_but F' hk₂ hIL hI₀).change hs₃ hcL hc₀
        have off3 := off'.mem
        have N₂ : News h₀ L h₂ ((s₂.heap.objs.size, lst ys) :: news') := news_but N' hk₂ fun p hp => by
          rcases List.mem_cons.mp hp with rfl | hp
          · exact Ne.symm hDI
          · exact (off3 p hp).1
        have N₃ : News h₀ L h₃ ((I, oI) :: (H2.objs.size, oC) :: (s₂.heap.objs.size, lst ys) :: (c, oc) :: news') := fun p hp => by
          rcases List.mem_cons.mp hp with rfl | hp
          · exact ⟨heI, Ne.symm hIL, hI₀⟩
          · rcases List.mem_cons.mp hp with rfl | hp
            · exact ⟨heC, hCL, hC₀⟩
            · rcases List.mem_cons.mp hp with rfl | hp
              · have z := N₂ _ (List.mem_cons_self ..)
                exact ⟨hs₃.extBut _ _ (Ne.symm hcD) z.1, z.2⟩
              · rcases List.mem_cons.mp hp with rfl | hp
                · exact ⟨hec, hcL, hc₀⟩
                · have z := N₂ p (List.mem_cons_of_mem _ hp)
                  exact ⟨hs₃.extBut _ _ (off1 offc' p hp) z.1, z.2⟩
        refine back9 ?_
        clear back9 G9
        refine wpAny_mono (R' v I oI H2.objs.size oC s₂.heap.objs.size c oc h₃ _ _ hPv hoC hoc F₃ N₃ off' offc' ⟨hCI, hDI, Ne.symm hDC, hcI, hcC, hcD⟩) (fun ok s₄ h₄ => ?_) fun _ _ e => e
        refine hideGoal fun G9 back9 => ?_
        cases ok with
        | true =>
          refine back9 ?_
          clear back9 G9
          simp only [if_true] at h₄ ⊢
          refine wpAny_mono h₄ (fun y s₅ h₅ => ?_) fun _ _ e => e
          refine hideGoal fun G9 back9 => ?_
          obtain ⟨h₄, tk₄, news₄, rfl, F₄, N₄, off₄, offc₄, hS₄, R₄⟩ := h₅
          have zI := (N₄ (I, oI) List.mem_cons_self).1
          have zC := (N₄ (H2.objs.size, oC) (List.mem_cons_of_mem _ List.mem_cons_self)).1
          have zD := (N₄ (s₂.heap.objs.size, lst ys) (List.mem_cons_of_mem _ (List.mem_cons_of_mem _ List.mem_cons_self))).1
          have zc := (N₄ (c, oc) (List.mem_cons_of_mem _ (List.mem_cons_of_mem _ (List.mem_cons_of_mem _ List.mem_cons_self)))).1
          have N₄' : News h₀ L h₄ news₄ := fun p hp => N₄ p (List.mem_cons_of_mem _ (List.mem_cons_of_mem _ (List.mem_cons_of_mem _ (List.mem_cons_of_mem _ hp))))
          have hst₄ : St (i + 1) h₄ := hSt _ _ _ _ _ hst₃ heI zI F₄.keep N₄' hS₄
          refine back9 ?_
          clear back9 G9
          refine append_at (hsz := by show ys.toArray.size ≤ sizeLine; rw [List.size_toArray]; exact Nat.le_trans (Nat.le_trans hyl hi) hsz) zD fun h₅ hs₅ hD₅ => ?_
          have off4 := off₄.mem
          refine ⟨n + 1 - (i + 1), by omega, h₅, tk₄, i + 1, ys ++ [y], some v, news₄, rfl, hlt, rfl, by rw [List.length_append, List.length_singleton]; exact Nat.succ_le_succ hyl, W.frame _ _ _ hst₄ fun b hb o e => hs₅.extBut b o (fun q => hDf (q ▸ hb)) e, F₄.change hs₅ hDL hD₀,
            (hoC.ns zC).sameBut hs₅ (Ne.symm hDC), Heap.IsCell.sameBut ⟨oc, zc, hoc⟩ hs₅ hcD, fun p hp => ?_, off₄, offc₄, hS₄, ?_⟩
          · rcases List.mem_cons.mp hp with rfl | hp
            · exact ⟨hD₅.trans (congrArg some (lst_snoc ys y)), hDL, hD₀⟩
            · exact ⟨hs₅.extBut _ _ (off4 p hp).2.2 (N₄' p hp).1, (N₄' p hp).2⟩
          · rw [show n - (i + 1) = j by omega]
            exact R₄
        | false =>
          refine back9 ?_
          clear back9 G9
          simp only [Bool.false_eq_true, if_false] at h₄ ⊢
          refine hideGoal fun G9 back9 => ?_
          obtain ⟨h₅, tk₄, news₄, rfl, F₄, N₄, off₄, offc₄, hS₄, R₄⟩ := h₄
          have zI := (N₄ (I, oI) List.mem_cons_self).1
          have zC := (N₄ (H2.objs.size, oC) (List.mem_cons_of_mem _ List.mem_cons_self)).1
          have zc := (N₄ (c, oc) (List.mem_cons_of_mem _ (List.mem_cons_of_mem _ (List.mem_cons_of_mem _ List.mem_cons_self)))).1
          have N₄' : News h₀ L h₅ news₄ := fun p hp => N₄ p (List.mem_cons_of_mem _ (List.mem_cons_of_mem _ (List.mem_cons_of_mem _ (List.mem_cons_of_mem _ hp))))
          have hst₄ : St (i + 1) h₅ := hSt _ _ _ _ _ hst₃ heI zI F₄.keep N₄' hS₄
          refine back9 ?_
          clear back9 G9
          refine ⟨n + 1 - (i + 1), by omega, h₅, tk₄, i + 1, ys, some v, news₄, rfl, hlt, rfl, Nat.le_succ_of_le hyl, hst₄, F₄, hoC.ns zC, ⟨oc, zc, hoc⟩, fun p hp => ?_, off₄, offc₄, hS₄, ?_⟩
          · rcases List.mem_cons.mp hp with rfl | hp
            · exact N₄ _ (List.mem_cons_of_mem _ (List.mem_cons_of_mem _ List.mem_cons_self))
            · exact N₄' p hp
          · rw [show n - (i + 1) = j by omega]
            exact R₄
      · obtain rfl : i = n := Nat.le_antisymm hi (Nat.not_lt.mp hlt)
        rw [Nat.sub_self] at R'
        refine W.done _ _ _ hst' fun h₂ tk₂ hk₂ => ?_
        have off3 := off'.mem
        exact hRR _ _ h₂ tk₂ _ ys news' (fr_but F' hk₂ hIL hI₀) (news_but N' hk₂ fun p hp => by
          refine hideGoal fun G9 back9 => ?_
          rcases List.mem_cons.mp hp with rfl | hp
          · refine back9 ?_
            clear back9 G9
            exact Ne.symm hDI
          · refine back9 ?_
            clear back9 G9
            exact (off3 p hp).1) off'.one (hn'.at' fun o e => hk₂ _ o (by simpa using Ne.symm hCI) e) hC₀ hD₀ hCL hDL (Ne.symm hDC) (fun p hp => (off3 p hp).2.1) R'
    · rcases List.mem_cons.mp hp with rfl | hp
      · exact ⟨hacc, hDL, hD₀⟩
      · exact ⟨old _ _ (N p hp).1, (N p hp).2⟩
  exact codeAny_compStart_list (loop _ rfl) (W.self 0 _ _ _ hst₁ (loop _ rfl))
/-- the source: a list of the ledger -/
noncomputable def SrcC (prog : PySem.Program) (w : World) (A : Around) (h₀ : Heap) (L : Addr) (m : PySem.Str → Option Value) (env : Env) (ifs : List PySem.Expr) (elt : PySem.Expr) (x : PySem.Str) (scope : Scope) (cl : List (PySem.Str × Addr)) (Fin : Shared → List Value → List (Addr × Obj) → Prop) (xv : Value) (s₁ : Shared) : Prop :=
  ∃ ax its news, xv = .ref ax ∧ A.handled = none ∧ Fr h₀ L s₁.heap m ∧ News h₀ L s₁.heap news ∧ SrcAt h₀ ax its news ∧ its.size ≤ sizeLine ∧
    ∀ s₂ : Shared, (∃ h, s₂ = { s₁ with heap := h }) → RestC prog w A h₀ L m env ifs elt x scope cl s₂ (SrcAt h₀ ax its) (fun i v => its[i]? = some v) (Fin s₂) its.size 0 [] news
theorem SrcC.ledger {elt : PySem.Expr} {ifs : List PySem.Expr} {x : PySem.Str} {scope : Scope} {cl : List (PySem.Str × Addr)} {Fin : Shared → List Value → List (Addr × Obj) → Prop} {ax : Addr} {its : Array Value} {k : Nat} {news : List (Addr × Obj)} {s₁ : Shared}
    (hh : A.handled = none) (F : Fr h₀ L s₁.heap m) (N : News h₀ L s₁.heap news) (hm : (ax, ({ cls := .type "list", data := .seq its k } : Obj)) ∈ news) (hsz : its.size ≤ sizeLine)
    (h : ∀ g, RestC prog w A h₀ L m env ifs elt x scope cl { s₁ with heap := g } (SrcAt h₀ ax its) (fun i v => its[i]? = some v) (Fin { s₁ with heap := g }) its.size 0 [] news) :
    SrcC prog w A h₀ L m env ifs elt x scope cl Fin (.ref ax) s₁ := ⟨ax, its, news, rfl, hh, F, N, .inr ⟨_, hm, rfl, _, rfl⟩, hsz, fun _ ⟨g, e⟩ => e ▸ h g⟩
theorem ListComp_C {elt iter : PySem.Expr} {ifs : List PySem.Expr} {x : PySem.Str} {px : Pos} {scope : Scope} {cl : List (PySem.Str × Addr)} {pos : Pos} {Q : Value → Shared → Prop} (F₀ : Fr h₀ L s.heap m)
    (hclos : closureFor scope env = pure cl) (hcf : ∀ n, cellsFrom n scope.names cl = (x, n) :: cl) (hpc : ∀ h, pushCells h scope.names = h.push cellNone) (hkind : scope.kind = .function)
    (hnames : ∀ y ∈ scope.names, y.2 = .local → scope.names.lookup y.1 = some .local) (hx : scope.names.lookup x = some .cell)
    (h : wpAny (model prog w) A (eval iter env) (SrcC prog w A h₀ L m env ifs elt x scope cl (fun s₂ => FinE h₀ L m s₂ Q)) E s)
    (hs : ∀ x, foldedSetIterable iter env x = pure x := by intro _; rfl) :
    wpAny (model prog w) A (eval (.ListComp elt [⟨.Name x px, iter, ifs, 0⟩] scope pos) env) Q E s := by
  rw [eval_ListComp]
  refine wpAny_comprehension_free (use := none) rfl hs hclos hkind hnames (wpAny_mono h (fun xv s₁ h₁ => ?_) fun _ _ e => e)
  refine hideGoal fun G9 back9 => ?_
  obtain ⟨ax, its, news, rfl, hh, F, N, S, hsz, R⟩ := h₁
  have hl := S.list F.keep N
  have hlt : ax < s₁.heap.objs.size := by obtain ⟨_, e, _⟩ := hl; exact Heap.lt_size e
  refine back9 ?_
  clear back9 G9
  refine wpAny_pyIter_list hl ?_
  have up : ∀ b o, s₁.heap.get? b = some o → (s₁.heap.push { cls := .type "list_iterator", data := .fields #[.ref ax, .int 0 0] }).get? b = some o := fun b o e => Heap.get?_push_of_some _ e
  refine block_C (Walks.list hh s₁.heap.objs.size ax (Nat.ne_of_lt hlt) its) hsz (fun i h st => by obtain ⟨o, e, _⟩ := st.1; exact ⟨o, e⟩) list_st hcf hpc hkind hx ⟨⟨_, Heap.get?_push_size _ rfl, rfl, rfl⟩, hl.push _⟩ (fun b hb => ?_)
    (F.keeps up) (N.grown up) (Nat.ne_of_lt F.ns.lt) (next_is_new F) (fun p hp => Nat.ne_of_lt (Heap.lt_size (N p hp).1)) S (R _ ⟨_, rfl⟩) ?_
  · show b < (s₁.heap.push _).objs.size
    rw [Heap.size_push]
    refine hideGoal fun G9 back9 => ?_
    rcases List.mem_cons.mp hb with rfl | hb
    · refine back9 ?_
      clear back9 G9
      exact Nat.lt_succ_self _
    · refine back9 ?_
      clear back9 G9
      rw [List.mem_singleton.mp hb]; exact Nat.lt_succ_of_lt hlt
  · intro D C h tk m' ys news' F' N' o1 hn hC₀ hD₀ hCL hDL hCD offC fin
    refine ⟨m', hn, fun h'' hs'' => fin D h'' tk (F'.change hs'' hCL hC₀) (fun p hp => ?_) o1⟩
    refine ⟨hs''.extBut _ _ ?_ (N' p hp).1, (N' p hp).2⟩
    refine hideGoal fun G9 back9 => ?_
    rcases List.mem_cons.mp hp with rfl | hp
    · refine back9 ?_
      clear back9 G9
      exact Ne.symm hCD
    · refine back9 ?_
      clear back9 G9
      exact offC p hp
theorem Assign_ListComp_C {elt iter : PySem.Expr} {ifs : List PySem.Expr} {x y : PySem.Str} {px py : Pos} {scope : Scope} {cl : List (PySem.Str × Addr)} {pos spos : Pos} {Q : Flow → Shared → Prop} (F₀ : Fr h₀ L s.heap m) (hLe : env.locals = L)
    (hsw : swapsWith (.ListComp elt [⟨.Name x px, iter, ifs, 0⟩] scope pos) (some (.Name y py)) spos.line env = pure true)
    (hclos : closureFor scope env = pure cl) (hcf : ∀ n, cellsFrom n scope.names cl = (x, n) :: cl) (hpc : ∀ h, pushCells h scope.names = h.push cellNone) (hkind : scope.kind = .function)
    (hnames : ∀ z ∈ scope.names, z.2 = .local → scope.names.lookup z.1 = some .local) (hx : scope.names.lookup x = some .cell)
    (hy : env.kindOf y = some .local) (hp : (env.scope.kind == .class || (env.scope.kind == .module && env.locals != env.globals)) = false)
    (h : wpAny (model prog w) A (eval iter env) (SrcC prog w A h₀ L m env ifs elt x scope cl (fun s₂ => FinA h₀ L m s₂ y Q)) E s)
    (hs : ∀ x, foldedSetIterable iter env x = pure x := by intro _; rfl) :
    wpAny (model prog w) A (exec (.Assign [.Name y py] (.ListComp elt [⟨.Name x px, iter, ifs, 0⟩] scope pos) spos) env) Q E s := by
  refine hideGoal fun G9 back9 => ?_
  subst hLe
  refine back9 ?_
  clear back9 G9
  rw [exec_Assign_Name_used _ _ _ _ hsw]
  refine wpAny_bind (wpAny_standAt (wpAny_bind ?_))
  show wpAny _ A (do let _ ← comprehension (.ListComp elt [⟨.Name x px, iter, ifs, 0⟩] scope pos) scope env _ (newList []) false (eval iter env) (some (assign (.Name y py) env))) _ _ s
  refine wpAny_bind (wpAny_mono (wpAny_comprehension_free (use := some (assign (.Name y py) env)) (Q := fun _ s' => Q .next s') rfl hs hclos hkind hnames
    (wpAny_mono h (fun xv s₁ h₁ => ?_) fun _ _ e => e)) (fun _ s' hq => wpAny_pure (wpAny_pure hq)) fun _ _ e => e)
  refine hideGoal fun G9 back9 => ?_
  obtain ⟨ax, its, news, rfl, hh, F, N, S, hsz, R⟩ := h₁
  have hl := S.list F.keep N
  have hlt : ax < s₁.heap.objs.size := by obtain ⟨_, e, _⟩ := hl; exact Heap.lt_size e
  refine back9 ?_
  clear back9 G9
  refine wpAny_pyIter_list hl ?_
  have up : ∀ b o, s₁.heap.get? b = some o → (s₁.heap.push { cls := .type "list_iterator", data := .fields #[.ref ax, .int 0 0] }).get? b = some o := fun b o e => Heap.get?_push_of_some _ e
  refine block_C (Walks.list hh s₁.heap.objs.size ax (Nat.ne_of_lt hlt) its) hsz (fun i h st => by obtain ⟨o, e, _⟩ := st.1; exact ⟨o, e⟩) list_st hcf hpc hkind hx ⟨⟨_, Heap.get?_push_size _ rfl, rfl, rfl⟩, hl.push _⟩ (fun b hb => ?_)
    (F.keeps up) (N.grown up) (Nat.ne_of_lt F.ns.lt) (next_is_new F) (fun p hp => Nat.ne_of_lt (Heap.lt_size (N p hp).1)) S (R _ ⟨_, rfl⟩) ?_
  · show b < (s₁.heap.push _).objs.size
    rw [Heap.size_push]
    refine hideGoal fun G9 back9 => ?_
    rcases List.mem_cons.mp hb with rfl | hb
    · refine back9 ?_
      clear back9 G9
      exact Nat.lt_succ_self _
    · refine back9 ?_
      clear back9 G9
      rw [List.mem_singleton.mp hb]; exact Nat.lt_succ_of_lt hlt
  · intro D C h' tk m' ys news' F' N' o1 hn hC₀ hD₀ hCL hDL hCD offC fin
    show wpAny _ A (assign (.Name y py) env (.ref D)) _ _ _
    refine wpAny_assign_Name (wpAny_storeName_local hy F'.ns (fun h₂ hn₂ hs₂ => ?_) hp)
    have hL₀ : h₀.get? env.locals = none := Heap.get?_none_of_le F'.above
    have F₂ : Fr h₀ env.locals h₂ (fun z => if z = y then some (.ref D) else m z) := ⟨hn₂, fun b o e => hs₂.extBut b o (fun q => by rw [q, hL₀] at e; cases e) (F'.keep b o e), F'.above⟩
    refine ⟨m', hn.sameBut hs₂ hCL, fun h'' hs'' => fin D h'' _ (F₂.change hs'' hCL hC₀) (fun p hp => ?_) o1⟩
    have z : h₂.get? p.1 = some p.2 := hs₂.extBut _ _ (N' p hp).2.1 (N' p hp).1
    refine ⟨hs''.extBut _ _ ?_ z, (N' p hp).2⟩
    refine hideGoal fun G9 back9 => ?_
    rcases List.mem_cons.mp hp with rfl | hp
    · refine back9 ?_
      clear back9 G9
      exact Ne.symm hCD
    · refine back9 ?_
      clear back9 G9
      exact offC p hp
end
end Mine88
end

-- part P22
section
open PySem PySem.W PyProof.Rows PySem.Spec PySem.Calls
set_option maxRecDepth 100000
set_option maxHeartbeats 8000000
namespace Mine88
/-! a call that sees a part of the ledger only: what it does not see, stays -/
noncomputable abbrev Kept (rest : List (Addr × Obj)) (h : Heap) : Prop := ∀ p ∈ rest, h.get? p.1 = some p.2
section
variable {prog : PySem.Program} {w : World} {A₀ A : Around} {s : Shared} {base h₀ : Heap} {outer : List Env} {L : Addr} {m : PySem.Str → Option Value} {env : Env} {news rest : List (Addr × Obj)} {K : Frag} {p : PySem.Program} {loose : List PySem.Str} {mean : ExcName → Option Value} {mg mb : PySem.Str → Option Value}
  {R : Result → Shared → Prop} {name qual : PySem.Str} {params : Arguments} {body : List Stmt} {scope : Scope} {dV kV doc pm cdv ct oc : Value} {an od : Option Addr} {osl : Array (Option Value)} {f : Addr} {args : Args} {binds : List (PySem.Str × Value)}
theorem code_defR (hR : ∀ p ∈ rest, s.heap.get? p.1 = some p.2 ∧ p.1 ∉ news.map (·.1)) (B : Below A₀ base outer h₀) (F : Fr h₀ L s.heap m) (X₀ : K.In h₀) (N : News h₀ L s.heap news) (T : Top p loose mean mg mb h₀) (hA : A.frames = some (env :: outer)) (hf : env.frame = some L) (hke : env.scope.kind = .function)
    (ho : K.lookup f = some ⟨oc, od, .func (fnOf name qual params body scope dV kV doc pm an cdv ct), osl⟩) (hcd : codeIn K cdv qual = true) (hroom : A.depth < recursionLimit)
    (hbind : BindsTo s (fnOf name qual params body scope dV kV doc pm an cdv ct) args binds) (hloc : ∀ y ∈ binds, scope.names.lookup y.1 = some .local)
    (h : ∀ g L' h₁, Kept rest g → Fr h₀ L g m → Fr g L' h₁ (fun y => binds.reverse.lookup y) → News g L' h₁ news → Below A base (env :: outer) g → K.In g → Top p loose mean mg mb g →
      wpAny (model prog w) (A.deeper (envOf qual scope L' f cdv)) (execs body (envOf qual scope L' f cdv))
        (fun fl s' => LeaveK h₀ L m g R (match fl with | .ret v => v | _ => .none) s')
        (fun e s' => wpAny (model prog w) (A.deeper (envOf qual scope L' f cdv)) (leaving (envOf qual scope L' f cdv) e) (fun _ s'' => R (.error e) s'') (fun e' s'' => R (.error e') s'') s')
        { s with heap := h₁, toks := s.toks + binds.length })
    (hco : scope.isCoroutine = false) (hgen : scope.isGenerator = false) (hk : scope.kind = .function) (hcell : ∀ x ∈ scope.names, x.2 ≠ .cell) : codeAny (model prog w) A (.call (.ref f) args) R s := by
  obtain ⟨FG, BG, st, lv⟩ := groundX (R := R) B F N hA hf hke
  refine codeAny_call_def (body := body) (binds := binds) hroom ((X₀.keeps F.keep) _ _ ho) rfl (T.nolimit.keeps F.keep) (codeRec_of (X₀.keeps F.keep) hcd) rfl hbind hcell hloc (fun h₁ hns hk₁ => ?_) hco hgen hk
  refine wpAny_mono (h _ s.heap.objs.size h₁ (fun q hq => hideAll_get _ (hR q hq).1 (hR q hq).2) FG ⟨hns, fun b o e => hk₁ b o (of_hideAll _ e), Nat.le_of_eq (hideAll_size _ _)⟩ (fun q hq => ?_) BG (X₀.keeps st) (T.keeps st)) (fun fl s' hl => lv _ _ hl) fun _ _ y => y
  exact ⟨hk₁ _ _ (N q hq).1, Nat.ne_of_lt (Heap.lt_size (N q hq).1), hideAll_none _ (List.mem_map_of_mem hq)⟩
theorem code_defCR (hR : ∀ p ∈ rest, s.heap.get? p.1 = some p.2 ∧ p.1 ∉ news.map (·.1)) (B : Below A₀ base outer h₀) (F : Fr h₀ L s.heap m) (X₀ : K.In h₀) (N : News h₀ L s.heap news) (T : Top p loose mean mg mb h₀) (hA : A.frames = some (env :: outer)) (hf : env.frame = some L) (hke : env.scope.kind = .function)
    (ho : K.lookup f = some ⟨oc, od, .func (fnOf name qual params body scope dV kV doc pm an cdv ct), osl⟩) (hcd : codeIn K cdv qual = true) (hroom : A.depth < recursionLimit)
    (hbind : BindsTo s (fnOf name qual params body scope dV kV doc pm an cdv ct) args binds) (hkind : (binds.all fun y => scope.names.lookup y.1 == some .local || scope.names.lookup y.1 == some .cell) = true)
    (hnd : ((cellsFrom 0 scope.names []).map (·.1)).Nodup)
    (h : ∀ g L' h₁ tk cells, Kept rest g → Fr h₀ L g m → Fr g L' h₁ (bindL (envOfC qual scope L' f cdv).kindOf binds fun _ => none) → News g L' h₁ (cells ++ news) →
      CellsAre (bindC (envOfC qual scope L' f cdv).kindOf binds fun _ => none) (cellsFrom (L' + 1) scope.names []) cells → Below A base (env :: outer) g → K.In g → Top p loose mean mg mb g → (∀ p ∈ news, p.1 < L') →
      wpAny (model prog w) (A.deeper (envOfC qual scope L' f cdv)) (execs body (envOfC qual scope L' f cdv))
        (fun fl s' => LeaveK h₀ L m g R (match fl with | .ret v => v | _ => .none) s')
        (fun e s' => wpAny (model prog w) (A.deeper (envOfC qual scope L' f cdv)) (leaving (envOfC qual scope L' f cdv) e) (fun _ s'' => R (.error e) s'') (fun e' s'' => R (.error e') s'') s')
        { s with heap := h₁, toks := tk })
    (hco : scope.isCoroutine = false) (hgen : scope.isGenerator = false) (hk : scope.kind = .function) : codeAny (model prog w) A (.call (.ref f) args) R s := by
  obtain ⟨FG, BG, st, lv⟩ := groundX (R := R) B F N hA hf hke
  refine codeAny_call_function hroom ((X₀.keeps F.keep) _ _ ho) rfl hco hgen rfl (codeRec_of (X₀.keeps F.keep) hcd) (hbind _ _ _ _ ?_)
  refine wpAny_newFunctionEnv_cells hk (kindsX hkind _) fun env' he s' x => ?_
  subst he
  refine ⟨(T.nolimit.keeps F.keep).keeps x.toInCall.keep, codeAny_func ?_⟩
  obtain ⟨h₁, tk, rfl, _⟩ := x.done
  have hk₁ := x.toInCall.keep
  obtain ⟨cells, NC, Y⟩ := Cl.news (h₀ := s.heap) (Nat.le_refl _) fun n c hm => ⟨x.cell n c (lookup_of_mem_nodup (cellsFrom_names scope.names 0 (s.heap.objs.size + 1) [] [] rfl ▸ hnd) hm), x.above n c hm⟩
  refine wpAny_mono (h _ s.heap.objs.size h₁ tk cells (fun q hq => hideAll_get _ (hR q hq).1 (hR q hq).2) FG ⟨x.toInCall.ns, fun b o e => hk₁ b o (of_hideAll _ e), Nat.le_of_eq (hideAll_size _ _)⟩ (fun q hq => ?_) Y BG (X₀.keeps st) (T.keeps st) (fun q hq => Heap.lt_size (N q hq).1)) (fun fl s' hl => lv _ _ hl) fun _ _ y => y
  rcases List.mem_append.mp hq with hq | hq
  · refine ⟨(NC q hq).1, (NC q hq).2.1, ?_⟩
    cases e : (hideAll s.heap (news.map (·.1))).get? q.1 with
    | none => rfl
    | some o => have := of_hideAll _ e; rw [(NC q hq).2.2] at this; cases this
  · exact ⟨hk₁ _ _ (N q hq).1, Nat.ne_of_lt (Heap.lt_size (N q hq).1), hideAll_none _ (List.mem_map_of_mem hq)⟩
end
theorem leaveR {rest : List (Addr × Obj)} {h₀ g : Heap} {L L' : Addr} {m m' : PySem.Str → Option Value} {news' : List (Addr × Obj)} {R : Result → Shared → Prop} {v : Value} {s' : Shared} (hg : Kept rest g) (F' : Fr g L' s'.heap m') (N' : News g L' s'.heap news')
    (k : Fr h₀ L s'.heap m → News h₀ L s'.heap news' → Kept rest s'.heap → R (.ok (.ret v)) s') : LeaveK h₀ L m g R v s' := leaveK_ F' N' fun F N => k F N fun p hp => F'.keep _ _ (hg p hp)
/-- the contract of a def that sees the ledger `news` and leaves `rest` as it is -/
noncomputable abbrev SiteR (w : World) (dp un : Nat) (d u : Nat) (f : Addr) (vs : List Value) (kw : List (PySem.Str × Value)) (news rest : List (Addr × Obj)) (Post : (Value → List (Addr × Obj) → Prop)) : Prop :=
  ∀ (gd : Option (List Code)) (cn : PySem.Str) (csn : List (PySem.Str × NameKind)) (csg csc : Bool) (csm : List (PySem.Str × Const)) (a : Addr) (ccd : Value) (cl : List (PySem.Str × Addr)) (outer : List Env) (A₀ : Around) (base h₀ : Heap) (L : Addr) (m : PySem.Str → Option Value) (s : Shared) (Q E : Value → Shared → Prop)
    (p : PySem.Program) (loose : List PySem.Str) (mean : ExcName → Option Value) (mg mb : PySem.Str → Option Value),
    Below A₀ base outer h₀ → Fr h₀ L s.heap m → (Mine88.hd.heap_39 w.params).In h₀ → News h₀ L s.heap news → (∀ p ∈ rest, s.heap.get? p.1 = some p.2 ∧ p.1 ∉ news.map (·.1)) → Top p loose mean mg mb h₀ → dp + d < recursionLimit → un + u < cLine →
    (∀ v h' tk' news', Fr h₀ L h' m → News h₀ L h' news' → Kept rest h' → Post v news' → Q v { s with heap := h', toks := tk' }) →
    wpAny (model PySem.Challenge.rw_rt0088_01.row.prog w) (ktrTop dp un gd cn { kind := .function, names := csn, isGenerator := csg, isCoroutine := csc, more := csm } L a ccd cl outer) (call (.ref f) vs kw) Q E s
theorem Site.of_R {w : World} {dp un d u : Nat} {f : Addr} {vs : List Value} {kw : List (PySem.Str × Value)} {news₀ rest news : List (Addr × Obj)} {Post₀ : Value → List (Addr × Obj) → Prop} {Post : Value → Heap → List (Addr × Obj) → Prop}
    (h1 : ∀ p ∈ news₀, p ∈ news) (h2 : ∀ p ∈ rest, p ∈ news ∧ p.1 ∉ news₀.map (·.1)) (C : SiteR w dp un d u f vs kw news₀ rest Post₀)
    (h : ∀ h₀ L h, News h₀ L h news → ∀ v h' n, Post₀ v n → ∃ n', Post v h' n' ∧ ∀ p ∈ n', p ∈ n ++ rest) : Site w dp un d u f vs kw news Post := by
  intro gd cn csn csg csc csm a ccd cl outer A₀ base h₀ L m s Q E p loose mean mg mb B F X N T hd hu ret
  refine C gd cn csn csg csc csm a ccd cl outer A₀ base h₀ L m s Q E p loose mean mg mb B F X (fun q hq => N q (h1 q hq)) (fun q hq => ⟨(N q (h2 q hq).1).1, (h2 q hq).2⟩) T hd hu ?_
  intro v h' tk' n F' N' K P
  obtain ⟨n', P', hs⟩ := h h₀ L _ N v h' n P
  refine ret v h' tk' n' F' (fun q hq => ?_) P'
  rcases List.mem_append.mp (hs q hq) with hq | hq
  · exact N' q hq
  · exact ⟨K q hq, (N q (h2 q hq).1).2⟩
/-- all but one object -/
noncomputable def offs (I : Addr) (n : List (Addr × Obj)) : List (Addr × Obj) := n.filter fun p => decide (p.1 ≠ I)
theorem offs_rest {I : Addr} {o : Obj} {n : List (Addr × Obj)} : ∀ p ∈ offs I n, p ∈ n ∧ p.1 ∉ [(I, o)].map (·.1) := fun p h => ⟨(List.mem_filter.mp h).1, by simpa using (List.mem_filter.mp h).2⟩
theorem mem_offs {h₀ h : Heap} {L I : Addr} {o : Obj} {n : List (Addr × Obj)} (N : News h₀ L h n) (hI : (I, o) ∈ n) : ∀ p ∈ n, p = (I, o) ∨ p ∈ offs I n := by
  intro p hp
  by_cases e : p.1 = I
  · left
    have e1 := (N p hp).1
    have e2 := (N _ hI).1
    rw [e] at e1
    rw [e1] at e2
    obtain ⟨a, b⟩ := p
    simp only at e e2
    rw [e, Option.some.inj e2]
  · exact .inr (List.mem_filter.mpr ⟨hp, by simpa using e⟩)
/-- one list is read, a new object comes back -/
theorem Site.of_read {w : World} {dp un d u : Nat} {f : Addr} {vs : List Value} {kw : List (PySem.Str × Value)} {da : Addr} {o : Obj} {news : List (Addr × Obj)} {P : Value → Addr → Obj → Prop} (hw : (da, o) ∈ news)
    (C : ∀ rest, SiteR w dp un d u f vs kw [(da, o)] rest (fun v n' => ∃ D oD, P v D oD ∧ (D, oD) ∈ n' ∧ (da, o) ∈ n')) : Site w dp un d u f vs kw news (fun v _ n' => ∃ D oD, P v D oD ∧ n' = (D, oD) :: news) := by
  refine Site.of_R (fun p hp => by rw [List.mem_singleton.mp hp]; exact hw) offs_rest (C (offs da news)) ?_
  rintro h₀ L h N v h' n ⟨D, oD, p, m1, m2⟩
  refine ⟨_, ⟨D, oD, p, rfl⟩, fun q hq => ?_⟩
  rcases List.mem_cons.mp hq with rfl | hq
  · exact List.mem_append_left _ m1
  · rcases mem_offs N hw q hq with rfl | hq
    · exact List.mem_append_left _ m2
    · exact List.mem_append_right _ hq
/-- one list is read, a value comes back -/
theorem Site.of_look {w : World} {dp un d u : Nat} {f : Addr} {vs : List Value} {kw : List (PySem.Str × Value)} {da : Addr} {o : Obj} {news : List (Addr × Obj)} {P : Value → Prop} (hw : (da, o) ∈ news)
    (C : ∀ rest, SiteR w dp un d u f vs kw [(da, o)] rest (fun v n' => P v ∧ (da, o) ∈ n')) : Site w dp un d u f vs kw news (fun v _ n' => P v ∧ n' = news) := by
  refine Site.of_R (fun p hp => by rw [List.mem_singleton.mp hp]; exact hw) offs_rest (C (offs da news)) ?_
  rintro h₀ L h N v h' n ⟨p, m2⟩
  refine ⟨_, ⟨p, rfl⟩, fun q hq => ?_⟩
  rcases mem_offs N hw q hq with rfl | hq
  · exact List.mem_append_left _ m2
  · exact List.mem_append_right _ hq
/-- nothing of the ledger is read -/
theorem Site.of_none {w : World} {dp un d u : Nat} {f : Addr} {vs : List Value} {kw : List (PySem.Str × Value)} {news : List (Addr × Obj)} {P : Value → Prop}
    (C : ∀ rest, SiteR w dp un d u f vs kw [] rest (fun v n' => P v)) : Site w dp un d u f vs kw news (fun v _ n' => P v ∧ n' = news) := by
  refine Site.of_R (fun p hp => by cases hp) (fun p hp => ⟨hp, by simp⟩) (C news) ?_
  rintro h₀ L h N v h' n p
  exact ⟨_, ⟨p, rfl⟩, fun q hq => List.mem_append_right _ hq⟩
end Mine88
end

-- part P5
section
open PySem PySem.W PyProof.Rows PySem.Spec PySem.Calls
set_option maxRecDepth 100000
set_option maxHeartbeats 8000000
namespace Mine88
noncomputable def look (tab : List (PySem.Str × PySem.Str)) (k : PySem.Str) : Option PySem.Str := (tab.find? fun kv => Txt.lower kv.1 == k).map (·.2)
theorem look_hit {kv : PySem.Str × PySem.Str} {r : List (PySem.Str × PySem.Str)} {k : PySem.Str} (h : (Txt.lower kv.1 == k) = true) : look (kv :: r) k = some kv.2 := by simp only [look, List.find?_cons, h, Option.map_some]
theorem look_miss {kv : PySem.Str × PySem.Str} {r : List (PySem.Str × PySem.Str)} {k : PySem.Str} (h : (Txt.lower kv.1 == k) = false) : look (kv :: r) k = look r k := by simp only [look, List.find?_cons, h]
theorem set_rows_P5 : True := by
  k_with_none
  k_with "call builtin:issubclass" => (k_here; (with_reducible show wpAny _ _ (call (Value.builtin "issubclass") [Value.type "str", Value.ref _]) _ _ _); k_dflt (refine' issub_call ?k1 ?_; (case k1 => exact News.get (by assumption) (by k_mem)); k_whole); intro tk_z)
  k_with "call ref" => (k_here; (with_reducible show wpAny _ _ (call (Value.ref 299) [Value.str _ _] _) _ _ _); refine Stop.out ?_)
  k_with "call ref" => (k_here; (with_reducible show wpAny _ _ (call (Value.ref 299) [Value.str _ _] _) _ _ _); k_dflt (refine' site_use ?k1 ?k2 ?k3 ?k4 ?k5 (get_sep_c _ _ _ _ _ _) ?kd ?ku ?_; (case k1 => k_asm); (case k2 => k_asm); (case k3 => k_asm); (case k4 => k_asm); (case k5 => k_asm); (case kd => k_room); (case ku => k_units); k_whole); intro v9_z h'_z tk9_z n9_z F'_z N'_z hP9; (obtain ⟨e9_z, t9_z, e8_z⟩ := hP9; have e7_z := Eq.symm e9_z; clear e9_z; subst e7_z; subst e8_z); (try dsimp only))
  k_with "call ref" => (k_here; (with_reducible show wpAny _ _ (call (Value.ref 285) [Value.str _ _] _) _ _ _); refine Stop.out ?_)
  k_with "call ref" => (k_here; (with_reducible show wpAny _ _ (call (Value.ref 285) [Value.str _ _] _) _ _ _); k_dflt (refine' site_use ?k1 ?k2 ?k3 ?k4 ?k5 (fspath_c _ _ _ _ _ _) ?kd ?ku ?_; (case k1 => k_asm); (case k2 => k_asm); (case k3 => k_asm); (case k4 => k_asm); (case k5 => k_asm); (case kd => k_room); (case ku => k_units); k_whole); intro v9_z h'_z tk9_z n9_z F'_z N'_z hP9; (obtain ⟨e9_z, e8_z⟩ := hP9; have e7_z := Eq.symm e9_z; clear e9_z; subst e7_z; subst e8_z); (try dsimp only))
  k_with "truthy str" => (k_here; (with_reducible show wpAny _ _ (PySem.truthy (Value.str _ _)) _ _ _); (refine' KXt.truthy_pos (K := 1000) ?kxta ?kxtb ?kxtc ?_; (case kxta => assumption); (case kxtb => assumption); (case kxtc => exact Nat.le_of_ble_eq_true rfl)); intro _)
  k_with "getMethod ref" => (k_here; (with_reducible show wpAny _ _ (getMethod (Value.ref 43) _ _) _ _ _); k_dflt (refine' re_getMethod ?k1 ?k2 ?k3 ?_; (case k1 => k_asm); (case k2 => k_asm); (case k3 => k_is); k_whole))
  k_with "getMethod ref" => (k_here; (with_reducible show wpAny _ _ (getMethod (Value.ref 48) _ _) _ _ _); k_dflt (refine' re_getMethod ?k1 ?k2 ?k3 ?_; (case k1 => k_asm); (case k2 => k_asm); (case k3 => k_is); k_whole))
  k_with "call builtin:re.Pattern.search" => (k_here; k_dflt (refine' re_call (cd := codeN) ?k1 ?k2 ?k3 ?k4 ?k5 ?k6 ?_; (case k1 => k_asm); (case k2 => k_asm); (case k3 => k_is); (case k4 => k_is); (case k5 => decide +kernel); (case k6 => with_reducible assumption); k_whole))
  k_with "call builtin:re.Pattern.search" => (k_here; k_dflt (refine' re_call (cd := codeV) ?k1 ?k2 ?k3 ?k4 ?k5 ?k6 ?_; (case k1 => k_asm); (case k2 => k_asm); (case k3 => k_is); (case k4 => k_is); (case k5 => decide +kernel); (case k6 => with_reducible assumption); k_whole))
  k_with "call ref" => (k_here; (with_reducible show wpAny _ _ (call (Value.ref 70) [_, Value.str _ _] _) _ _ _); refine Stop.out ?_)
  k_with "call ref" => (k_here; (with_reducible show wpAny _ _ (call (Value.ref 70) [_, Value.str _ _] _) _ _ _); k_dflt (refine' site_use ?k1 ?k2 ?k3 ?k4 ?k5 (conv_name _ _ _ _ _ _ _ (by with_reducible assumption)) ?kd ?ku ?_; (case k1 => k_asm); (case k2 => k_asm); (case k3 => k_asm); (case k4 => k_asm); (case k5 => k_asm); (case kd => k_room); (case ku => k_units); k_whole); intro v9_z h'_z tk9_z n9_z F'_z N'_z hP9; (obtain ⟨e9_z, e8_z⟩ := hP9; have e7_z := Eq.symm e9_z; clear e9_z; subst e7_z; subst e8_z); (try dsimp only))
  k_with "call ref" => (k_here; (with_reducible show wpAny _ _ (call (Value.ref 70) [_, Value.str _ _] _) _ _ _); k_dflt (refine' site_use ?k1 ?k2 ?k3 ?k4 ?k5 (conv_value _ _ _ _ _ _ _ (by with_reducible assumption)) ?kd ?ku ?_; (case k1 => k_asm); (case k2 => k_asm); (case k3 => k_asm); (case k4 => k_asm); (case k5 => k_asm); (case kd => k_room); (case ku => k_units); k_whole); intro v9_z h'_z tk9_z n9_z F'_z N'_z hP9; (obtain ⟨e9_z, e8_z⟩ := hP9; have e7_z := Eq.symm e9_z; clear e9_z; subst e7_z; subst e8_z); (try dsimp only))
  trivial
theorem get_c (w : World) (dp un : Nat) (news : List (Addr × Obj)) (x dx l : Addr) (hsh : Int) (tk tn : Tok) (nn ep : Nat) (vs : List Value) (tab : List (PySem.Str × PySem.Str)) (name : PySem.Str)
    (h1 : (x, instObj 171 dx) ∈ news) (h2 : (dx, dictOf [⟨hsh, .str (PySem.Str.ofString "_headers") tk, .ref l⟩] nn) ∈ news) (h3 : (l, listO vs ep) ∈ news) (hr : RowsAre news vs tab) (hb : ∀ kv ∈ tab, kv.1.length ≤ 1000)
    (hc : reFails codeN (Txt.lower name) = true) (hn : name.length ≤ 1000) :
    Site w dp un 40 400 118 [.ref x, .str name tn] [] news (fun v _ n' => n' = news ∧ (∃ t, v = match look tab (Txt.lower name) with | some y => .str y t | none => .none)) := by
  unfold Site
  k_fill
  intro gd cn csn csg csc csm a ccd cl outer A₀ base h₀ L m s Q E p loose mean mg mb B F X N T hd hu hret
  refine wpAny_call ?_
  k_dflt k_enter
  k_steps
  (with_unfolding_all refine' For_unrF (by k_asm) ?_ ?ks); (case ks => (intro _; with_unfolding_all rfl))
  k_steps
  refine pair_loop (fun r => (∀ kv ∈ r, kv.1.length ≤ 1000) ∧ look tab (Txt.lower name) = look r (Txt.lower name)) (by rfl) (by k_asm) (by k_asm) (by k_mem) hr ⟨hb, rfl⟩ (by rfl) (by rfl) (by rfl) ?_ ?_
  · intro kv r t1 t2 hX tkX tkY ownX gX hI NX FX
    obtain ⟨hIb, hIl⟩ := hI
    have hkb : kv.1.length ≤ 1000 := hIb _ (List.mem_cons_self ..)
    k_steps
    · (rename (_ == _) = true => he)
      exact hret _ _ _ _ (by k_asm) (cb_drop (by (rename News _ _ _ _ => KN); exact KN) (fun p hp => List.mem_append_right _ hp)) ⟨rfl, t2, by rw [hIl, look_hit he]⟩
    · (rename (_ == _) = false => he)
      exact ⟨rfl, ⟨fun kv hk => hIb kv (List.mem_cons_of_mem _ hk), by rw [hIl, look_miss he]⟩, _, _, rfl⟩
  · intro u1 u2 hX tkX hI FX NX
    k_steps
    exact hret _ _ _ _ (by k_asm) (by k_asm) ⟨rfl, 0, by rw [hI.2]; rfl⟩
theorem Site.imp {w : World} {dp un d u : Nat} {f : Addr} {vs : List Value} {kw : List (PySem.Str × Value)} {news : List (Addr × Obj)} {P P' : (Value → Heap → List (Addr × Obj) → Prop)} (C : Site w dp un d u f vs kw news P) (h : ∀ v h' n', P v h' n' → P' v h' n') : Site w dp un d u f vs kw news P' :=
  fun _ _ _ _ _ _ _ _ _ _ _ _ _ _ _ _ _ _ _ _ _ _ _ B F X N T hd hu ret => C _ _ _ _ _ _ _ _ _ _ _ _ _ _ _ _ _ _ _ _ _ _ _ B F X N T hd hu fun v h' tk' n' F' N' p => ret v h' tk' n' F' N' (h _ _ _ p)
theorem get_none (w : World) (dp un : Nat) (news : List (Addr × Obj)) (x dx l : Addr) (hsh : Int) (tk tn : Tok) (nn ep : Nat) (vs : List Value) (tab : List (PySem.Str × PySem.Str)) (name : PySem.Str)
    (h1 : (x, instObj 171 dx) ∈ news) (h2 : (dx, dictOf [⟨hsh, .str (PySem.Str.ofString "_headers") tk, .ref l⟩] nn) ∈ news) (h3 : (l, listO vs ep) ∈ news) (hr : RowsAre news vs tab) (hb : ∀ kv ∈ tab, kv.1.length ≤ 1000)
    (hc : reFails codeN (Txt.lower name) = true) (hn : name.length ≤ 1000) (hl : look tab (Txt.lower name) = none) :
    Site w dp un 40 400 118 [.ref x, .str name tn] [] news (fun v _ n' => n' = news ∧ v = .none) :=
  (get_c w dp un news x dx l hsh tk tn nn ep vs tab name h1 h2 h3 hr hb hc hn).imp fun v h' n' ⟨a, t, b⟩ => ⟨a, by rw [hl] at b; exact b⟩
theorem get_some (w : World) (dp un : Nat) (news : List (Addr × Obj)) (x dx l : Addr) (hsh : Int) (tk tn : Tok) (nn ep : Nat) (vs : List Value) (tab : List (PySem.Str × PySem.Str)) (name y : PySem.Str)
    (h1 : (x, instObj 171 dx) ∈ news) (h2 : (dx, dictOf [⟨hsh, .str (PySem.Str.ofString "_headers") tk, .ref l⟩] nn) ∈ news) (h3 : (l, listO vs ep) ∈ news) (hr : RowsAre news vs tab) (hb : ∀ kv ∈ tab, kv.1.length ≤ 1000)
    (hc : reFails codeN (Txt.lower name) = true) (hn : name.length ≤ 1000) (hl : look tab (Txt.lower name) = some y) :
    Site w dp un 40 400 118 [.ref x, .str name tn] [] news (fun v _ n' => n' = news ∧ ∃ t, v = .str y t) :=
  (get_c w dp un news x dx l hsh tk tn nn ep vs tab name h1 h2 h3 hr hb hc hn).imp fun v h' n' ⟨a, t, b⟩ => ⟨a, t, by rw [hl] at b; exact b⟩
end Mine88
end

-- part P6
section
open PySem PySem.W PyProof.Rows PySem.Spec PySem.Calls
set_option maxRecDepth 100000
set_option maxHeartbeats 8000000
namespace Mine88
theorem set_rows_P6 : True := by
  k_with_none
  k_with "call builtin:issubclass" => (k_here; (with_reducible show wpAny _ _ (call (Value.builtin "issubclass") [Value.type "str", Value.ref _]) _ _ _); k_dflt (refine' issub_call ?k1 ?_; (case k1 => exact News.get (by assumption) (by k_mem)); k_whole); intro tk_z)
  k_with "call ref" => (k_here; (with_reducible show wpAny _ _ (call (Value.ref 299) [Value.str _ _] _) _ _ _); refine Stop.out ?_)
  k_with "call ref" => (k_here; (with_reducible show wpAny _ _ (call (Value.ref 299) [Value.str _ _] _) _ _ _); k_dflt (refine' site_use ?k1 ?k2 ?k3 ?k4 ?k5 (get_sep_c _ _ _ _ _ _) ?kd ?ku ?_; (case k1 => k_asm); (case k2 => k_asm); (case k3 => k_asm); (case k4 => k_asm); (case k5 => k_asm); (case kd => k_room); (case ku => k_units); k_whole); intro v9_z h'_z tk9_z n9_z F'_z N'_z hP9; (obtain ⟨e9_z, t9_z, e8_z⟩ := hP9; have e7_z := Eq.symm e9_z; clear e9_z; subst e7_z; subst e8_z); (try dsimp only))
  k_with "call ref" => (k_here; (with_reducible show wpAny _ _ (call (Value.ref 285) [Value.str _ _] _) _ _ _); refine Stop.out ?_)
  k_with "call ref" => (k_here; (with_reducible show wpAny _ _ (call (Value.ref 285) [Value.str _ _] _) _ _ _); k_dflt (refine' site_use ?k1 ?k2 ?k3 ?k4 ?k5 (fspath_c _ _ _ _ _ _) ?kd ?ku ?_; (case k1 => k_asm); (case k2 => k_asm); (case k3 => k_asm); (case k4 => k_asm); (case k5 => k_asm); (case kd => k_room); (case ku => k_units); k_whole); intro v9_z h'_z tk9_z n9_z F'_z N'_z hP9; (obtain ⟨e9_z, e8_z⟩ := hP9; have e7_z := Eq.symm e9_z; clear e9_z; subst e7_z; subst e8_z); (try dsimp only))
  k_with "truthy str" => (k_here; (with_reducible show wpAny _ _ (PySem.truthy (Value.str _ _)) _ _ _); (refine' KXt.truthy_pos (K := 1000) ?kxta ?kxtb ?kxtc ?_; (case kxta => assumption); (case kxtb => assumption); (case kxtc => exact Nat.le_of_ble_eq_true rfl)); intro _)
  k_with "getMethod ref" => (k_here; (with_reducible show wpAny _ _ (getMethod (Value.ref 43) _ _) _ _ _); k_dflt (refine' re_getMethod ?k1 ?k2 ?k3 ?_; (case k1 => k_asm); (case k2 => k_asm); (case k3 => k_is); k_whole))
  k_with "getMethod ref" => (k_here; (with_reducible show wpAny _ _ (getMethod (Value.ref 48) _ _) _ _ _); k_dflt (refine' re_getMethod ?k1 ?k2 ?k3 ?_; (case k1 => k_asm); (case k2 => k_asm); (case k3 => k_is); k_whole))
  k_with "call builtin:re.Pattern.search" => (k_here; k_dflt (refine' re_call (cd := codeN) ?k1 ?k2 ?k3 ?k4 ?k5 ?k6 ?_; (case k1 => k_asm); (case k2 => k_asm); (case k3 => k_is); (case k4 => k_is); (case k5 => decide +kernel); (case k6 => with_reducible assumption); k_whole))
  k_with "call builtin:re.Pattern.search" => (k_here; k_dflt (refine' re_call (cd := codeV) ?k1 ?k2 ?k3 ?k4 ?k5 ?k6 ?_; (case k1 => k_asm); (case k2 => k_asm); (case k3 => k_is); (case k4 => k_is); (case k5 => decide +kernel); (case k6 => with_reducible assumption); k_whole))
  k_with "call ref" => (k_here; (with_reducible show wpAny _ _ (call (Value.ref 70) [_, Value.str _ _] _) _ _ _); refine Stop.out ?_)
  k_with "call ref" => (k_here; (with_reducible show wpAny _ _ (call (Value.ref 70) [_, Value.str _ _] _) _ _ _); k_dflt (refine' site_use ?k1 ?k2 ?k3 ?k4 ?k5 (conv_name _ _ _ _ _ _ _ (by with_reducible assumption)) ?kd ?ku ?_; (case k1 => k_asm); (case k2 => k_asm); (case k3 => k_asm); (case k4 => k_asm); (case k5 => k_asm); (case kd => k_room); (case ku => k_units); k_whole); intro v9_z h'_z tk9_z n9_z F'_z N'_z hP9; (obtain ⟨e9_z, e8_z⟩ := hP9; have e7_z := Eq.symm e9_z; clear e9_z; subst e7_z; subst e8_z); (try dsimp only))
  k_with "call ref" => (k_here; (with_reducible show wpAny _ _ (call (Value.ref 70) [_, Value.str _ _] _) _ _ _); k_dflt (refine' site_use ?k1 ?k2 ?k3 ?k4 ?k5 (conv_value _ _ _ _ _ _ _ (by with_reducible assumption)) ?kd ?ku ?_; (case k1 => k_asm); (case k2 => k_asm); (case k3 => k_asm); (case k4 => k_asm); (case k5 => k_asm); (case kd => k_room); (case ku => k_units); k_whole); intro v9_z h'_z tk9_z n9_z F'_z N'_z hP9; (obtain ⟨e9_z, e8_z⟩ := hP9; have e7_z := Eq.symm e9_z; clear e9_z; subst e7_z; subst e8_z); (try dsimp only))
  k_with "call builtin:list.append" => (k_here; (with_reducible show wpAny _ _ (call (Value.builtin _) [Value.ref _, _]) _ _ _); k_dflt (refine' append_in ?k1 ?k2 ?k3 ?k4 ?_; (case k1 => k_asm); (case k2 => k_asm); (case k3 => k_mem); (case k4 => first | assumption | (simp only [List.length_append, List.length_cons, List.length_nil]; omega)); k_whole); intro h'_z F'_z N'_z)
  k_with "call ref" => (k_here; (with_reducible show wpAny _ _ (call (Value.ref 118) [_, Value.str _ _] _) _ _ _); refine Stop.out ?_)
  k_with "call ref" => (k_here; (with_reducible show wpAny _ _ (call (Value.ref 118) [_, Value.str _ _] _) _ _ _); k_dflt (refine' site_use ?k1 ?k2 ?k3 ?k4 ?k5 (get_none _ _ _ _ _ _ _ _ _ _ _ _ _ _ _ ?g1 ?g2 ?g3 ?g4 ?g5 ?g6 ?g7 ?g8) ?kd ?ku ?_; (case k1 => k_asm); (case k2 => k_asm); (case k3 => k_asm); (case k4 => k_asm); (case k5 => k_asm); (case g1 => k_mem); (case g2 => k_mem); (case g3 => k_mem); (case g4 => with_reducible assumption); (case g5 => with_reducible assumption); (case g6 => with_reducible assumption); (case g7 => with_reducible assumption); (case g8 => with_reducible assumption);(case kd => k_room); (case ku => k_units); k_whole); intro v9_z h'_z tk9_z n9_z F'_z N'_z hP9; (obtain ⟨e9_z, e8_z⟩ := hP9; have e7_z := Eq.symm e9_z; clear e9_z; subst e7_z; subst e8_z); (try dsimp only))
  k_with "call ref" => (k_here; (with_reducible show wpAny _ _ (call (Value.ref 118) [_, Value.str _ _] _) _ _ _); k_dflt (refine' site_use ?k1 ?k2 ?k3 ?k4 ?k5 (get_some _ _ _ _ _ _ _ _ _ _ _ _ _ _ _ _ ?g1 ?g2 ?g3 ?g4 ?g5 ?g6 ?g7 ?g8) ?kd ?ku ?_; (case k1 => k_asm); (case k2 => k_asm); (case k3 => k_asm); (case k4 => k_asm); (case k5 => k_asm); (case g1 => k_mem); (case g2 => k_mem); (case g3 => k_mem); (case g4 => with_reducible assumption); (case g5 => with_reducible assumption); (case g6 => with_reducible assumption); (case g7 => with_reducible assumption); (case g8 => with_reducible assumption);(case kd => k_room); (case ku => k_units); k_whole); intro v9_z h'_z tk9_z n9_z F'_z N'_z hP9; (obtain ⟨e9_z, t9_z, e8_z⟩ := hP9; have e7_z := Eq.symm e9_z; clear e9_z; subst e7_z; subst e8_z); (try dsimp only))
  trivial
theorem setdefault_new (w : World) (dp un : Nat) (news : List (Addr × Obj)) (x dx l : Addr) (hsh : Int) (tk tn tv : Tok) (nn ep : Nat) (vs : List Value) (tab : List (PySem.Str × PySem.Str)) (name value : PySem.Str)
    (h1 : (x, instObj 171 dx) ∈ news) (h2 : (dx, dictOf [⟨hsh, .str (PySem.Str.ofString "_headers") tk, .ref l⟩] nn) ∈ news) (h3 : (l, listO vs ep) ∈ news) (hr : RowsAre news vs tab) (hb : ∀ kv ∈ tab, kv.1.length ≤ 1000)
    (hc : reFails codeN (Txt.lower name) = true) (hc1 : reFails codeN name = true) (hc2 : reFails codeV value = true) (hn : name.length ≤ 1000) (hsz : vs.length ≤ 1000) (hl : look tab (Txt.lower name) = none) :
    Site w dp un 60 600 161 [.ref x, .str name tn, .str value tv] [] news (fun v _ n' => v = .str value tv ∧ ∃ D e2, (∀ p ∈ news, p.1 < D) ∧ n' = setAt l (listO (vs ++ [.ref D]) (ep + 1)) ((D, { cls := .type "tuple", data := .seq #[.str name tn, .str value tv] e2 }) :: news)) := by
  unfold Site
  k_fill
  intro gd cn csn csg csc csm a ccd cl outer A₀ base h₀ L m s Q E p loose mean mg mb B F X N T hd hu hret
  refine wpAny_call ?_
  k_dflt k_enter
  k_steps
  exact hret _ _ _ _ (by k_asm) (by k_asm) ⟨rfl, _, _, by assumption, rfl⟩
theorem setdefault_old (w : World) (dp un : Nat) (news : List (Addr × Obj)) (x dx l : Addr) (hsh : Int) (tk tn tv : Tok) (nn ep : Nat) (vs : List Value) (tab : List (PySem.Str × PySem.Str)) (name value y : PySem.Str)
    (h1 : (x, instObj 171 dx) ∈ news) (h2 : (dx, dictOf [⟨hsh, .str (PySem.Str.ofString "_headers") tk, .ref l⟩] nn) ∈ news) (h3 : (l, listO vs ep) ∈ news) (hr : RowsAre news vs tab) (hb : ∀ kv ∈ tab, kv.1.length ≤ 1000)
    (hc : reFails codeN (Txt.lower name) = true) (hn : name.length ≤ 1000) (hl : look tab (Txt.lower name) = some y) :
    Site w dp un 60 600 161 [.ref x, .str name tn, .str value tv] [] news (fun v _ n' => n' = news ∧ ∃ t, v = .str y t) := by
  unfold Site
  k_fill
  intro gd cn csn csg csc csm a ccd cl outer A₀ base h₀ L m s Q E p loose mean mg mb B F X N T hd hu hret
  refine wpAny_call ?_
  k_dflt k_enter
  k_steps
  exact hret _ _ _ _ (by k_asm) (by k_asm) ⟨rfl, _, rfl⟩
end Mine88
end

-- part P7
section
open PySem PySem.W PyProof.Rows PySem.Spec PySem.Calls
set_option maxRecDepth 100000
set_option maxHeartbeats 8000000
namespace Mine88
open PyProof.Rows.LCg
section
variable {prog : PySem.Program} {w : World} {A : Around} {s : Shared} {env : Env} {h₀ : Heap} {L : Addr} {m : PySem.Str → Option Value}
theorem strs_snoc {y : PySem.Str} {t : Tok} {vs : List Value} {ys : List PySem.Str} (h : StrsAre vs ys) : StrsAre (vs ++ [.str y t]) (ys ++ [y]) := kct_snoc h
theorem RowsAre.drop {news : List (Addr × Obj)} : ∀ {vs tab}, RowsAre news vs tab → ∀ i, RowsAre news (vs.drop i) (tab.drop i)
  | _, _, h, 0 => h
  | _, _, .nil, _ + 1 => .nil
  | _, _, .cons _ r, i + 1 => r.drop i
theorem keys_rest {x x₂ : PySem.Str} {pos : Pos} {scope : Scope} {cl : List (PySem.Str × Addr)} {Fin : List Value → List (Addr × Obj) → Prop} {ax : Addr} {vs : List Value} {ep : Nat} {news : List (Addr × Obj)} {tab : List (PySem.Str × PySem.Str)}
    (hl : (ax, listO vs ep) ∈ news) (hr : RowsAre news vs tab) (hk : ∀ C, (compEnvC scope cl C env).scope.kind = .function) (hx : ∀ C, (compEnvC scope cl C env).kindOf x = some .local) (hd : (x == ("__debug__" : PySem.Str)) = false)
    (fin : ∀ ys, StrsAre ys (tab.map (·.1)) → Fin ys news) :
    ∀ (k i : Nat) (ys : List Value), i + k = vs.length → StrsAre ys ((tab.take i).map (·.1)) →
      LCp.CompRestP prog w A h₀ L m env (.Name x pos) x x₂ scope cl s (SrcAt h₀ ax vs.toArray) (fun i v => vs.toArray[i]? = some v) Fin k i ys news := by
  intro k
  induction k with
  | zero =>
    intro i ys hi hy
    refine LCp.CompRestP.zero (fin _ ?_)
    have : tab.take i = tab := List.take_of_length_le (by rw [← hr.length]; lia)
    rw [this] at hy
    exact hy
  | succ k ih =>
    intro i ys hi hy
    have hlt : i < vs.length := by lia
    refine LCp.CompRestP.succ ?_
    intro v hP
    have hv : vs[i] = v := by
      have hP' : vs[i]? = some v := by simpa using hP
      rw [List.getElem?_eq_getElem hlt] at hP'
      exact Option.some.inj hP'
    subst hv
    have hlt' : i < tab.length := by rw [← hr.length]; exact hlt
    have hd' := hr.drop i
    rw [List.drop_eq_getElem_cons hlt, List.drop_eq_getElem_cons hlt'] at hd'
    cases hd' with
    | cons row _ =>
      obtain ⟨T, t1, t2, e, hv, hm⟩ := row
      refine ⟨T, _, _, _, e, hv, hm, rfl, rfl, ?_⟩
      intro I oI C oC D m₂ h tk E' hC hx₁ _ F N off ne
      refine LCgL.ld_own (oC := oC) (m₂ := m₂) N (by simp) hC hx₁ ?_ (hk C) (hx C) hd
      refine CompEnd.intro F N news (fun _ h => h) off (.inr ⟨_, hl, rfl, _, rfl⟩) (ih (i + 1) _ (by lia) ?_)
      have : (tab.take (i + 1)).map (·.1) = (tab.take i).map (·.1) ++ [tab[i].1] := by
        rw [List.take_add_one, List.map_append, List.getElem?_eq_getElem hlt']; rfl
      rw [this]
      exact strs_snoc hy
end
theorem set_rows_P7 : True := by
  k_with_none
  k_with "call builtin:issubclass" => (k_here; (with_reducible show wpAny _ _ (call (Value.builtin "issubclass") [Value.type "str", Value.ref _]) _ _ _); k_dflt (refine' issub_call ?k1 ?_; (case k1 => exact News.get (by assumption) (by k_mem)); k_whole); intro tk_z)
  k_with "call ref" => (k_here; (with_reducible show wpAny _ _ (call (Value.ref 299) [Value.str _ _] _) _ _ _); refine Stop.out ?_)
  k_with "call ref" => (k_here; (with_reducible show wpAny _ _ (call (Value.ref 299) [Value.str _ _] _) _ _ _); k_dflt (refine' site_use ?k1 ?k2 ?k3 ?k4 ?k5 (get_sep_c _ _ _ _ _ _) ?kd ?ku ?_; (case k1 => k_asm); (case k2 => k_asm); (case k3 => k_asm); (case k4 => k_asm); (case k5 => k_asm); (case kd => k_room); (case ku => k_units); k_whole); intro v9_z h'_z tk9_z n9_z F'_z N'_z hP9; (obtain ⟨e9_z, t9_z, e8_z⟩ := hP9; have e7_z := Eq.symm e9_z; clear e9_z; subst e7_z; subst e8_z); (try dsimp only))
  k_with "call ref" => (k_here; (with_reducible show wpAny _ _ (call (Value.ref 285) [Value.str _ _] _) _ _ _); refine Stop.out ?_)
  k_with "call ref" => (k_here; (with_reducible show wpAny _ _ (call (Value.ref 285) [Value.str _ _] _) _ _ _); k_dflt (refine' site_use ?k1 ?k2 ?k3 ?k4 ?k5 (fspath_c _ _ _ _ _ _) ?kd ?ku ?_; (case k1 => k_asm); (case k2 => k_asm); (case k3 => k_asm); (case k4 => k_asm); (case k5 => k_asm); (case kd => k_room); (case ku => k_units); k_whole); intro v9_z h'_z tk9_z n9_z F'_z N'_z hP9; (obtain ⟨e9_z, e8_z⟩ := hP9; have e7_z := Eq.symm e9_z; clear e9_z; subst e7_z; subst e8_z); (try dsimp only))
  k_with "truthy str" => (k_here; (with_reducible show wpAny _ _ (PySem.truthy (Value.str _ _)) _ _ _); (refine' KXt.truthy_pos (K := 1000) ?kxta ?kxtb ?kxtc ?_; (case kxta => assumption); (case kxtb => assumption); (case kxtc => exact Nat.le_of_ble_eq_true rfl)); intro _)
  k_with "getMethod ref" => (k_here; (with_reducible show wpAny _ _ (getMethod (Value.ref 43) _ _) _ _ _); k_dflt (refine' re_getMethod ?k1 ?k2 ?k3 ?_; (case k1 => k_asm); (case k2 => k_asm); (case k3 => k_is); k_whole))
  k_with "getMethod ref" => (k_here; (with_reducible show wpAny _ _ (getMethod (Value.ref 48) _ _) _ _ _); k_dflt (refine' re_getMethod ?k1 ?k2 ?k3 ?_; (case k1 => k_asm); (case k2 => k_asm); (case k3 => k_is); k_whole))
  k_with "call builtin:re.Pattern.search" => (k_here; k_dflt (refine' re_call (cd := codeN) ?k1 ?k2 ?k3 ?k4 ?k5 ?k6 ?_; (case k1 => k_asm); (case k2 => k_asm); (case k3 => k_is); (case k4 => k_is); (case k5 => decide +kernel); (case k6 => with_reducible assumption); k_whole))
  k_with "call builtin:re.Pattern.search" => (k_here; k_dflt (refine' re_call (cd := codeV) ?k1 ?k2 ?k3 ?k4 ?k5 ?k6 ?_; (case k1 => k_asm); (case k2 => k_asm); (case k3 => k_is); (case k4 => k_is); (case k5 => decide +kernel); (case k6 => with_reducible assumption); k_whole))
  k_with "call ref" => (k_here; (with_reducible show wpAny _ _ (call (Value.ref 70) [_, Value.str _ _] _) _ _ _); refine Stop.out ?_)
  k_with "call ref" => (k_here; (with_reducible show wpAny _ _ (call (Value.ref 70) [_, Value.str _ _] _) _ _ _); k_dflt (refine' site_use ?k1 ?k2 ?k3 ?k4 ?k5 (conv_name _ _ _ _ _ _ _ (by with_reducible assumption)) ?kd ?ku ?_; (case k1 => k_asm); (case k2 => k_asm); (case k3 => k_asm); (case k4 => k_asm); (case k5 => k_asm); (case kd => k_room); (case ku => k_units); k_whole); intro v9_z h'_z tk9_z n9_z F'_z N'_z hP9; (obtain ⟨e9_z, e8_z⟩ := hP9; have e7_z := Eq.symm e9_z; clear e9_z; subst e7_z; subst e8_z); (try dsimp only))
  k_with "call ref" => (k_here; (with_reducible show wpAny _ _ (call (Value.ref 70) [_, Value.str _ _] _) _ _ _); k_dflt (refine' site_use ?k1 ?k2 ?k3 ?k4 ?k5 (conv_value _ _ _ _ _ _ _ (by with_reducible assumption)) ?kd ?ku ?_; (case k1 => k_asm); (case k2 => k_asm); (case k3 => k_asm); (case k4 => k_asm); (case k5 => k_asm); (case kd => k_room); (case ku => k_units); k_whole); intro v9_z h'_z tk9_z n9_z F'_z N'_z hP9; (obtain ⟨e9_z, e8_z⟩ := hP9; have e7_z := Eq.symm e9_z; clear e9_z; subst e7_z; subst e8_z); (try dsimp only))
  k_with "call builtin:list.append" => (k_here; (with_reducible show wpAny _ _ (call (Value.builtin _) [Value.ref _, _]) _ _ _); k_dflt (refine' append_in ?k1 ?k2 ?k3 ?k4 ?_; (case k1 => k_asm); (case k2 => k_asm); (case k3 => k_mem); (case k4 => first | assumption | (simp only [List.length_append, List.length_cons, List.length_nil]; omega)); k_whole); intro h'_z F'_z N'_z)
  k_with "call ref" => (k_here; (with_reducible show wpAny _ _ (call (Value.ref 118) [_, Value.str _ _] _) _ _ _); refine Stop.out ?_)
  k_with "call ref" => (k_here; (with_reducible show wpAny _ _ (call (Value.ref 118) [_, Value.str _ _] _) _ _ _); k_dflt (refine' site_use ?k1 ?k2 ?k3 ?k4 ?k5 (get_none _ _ _ _ _ _ _ _ _ _ _ _ _ _ _ ?g1 ?g2 ?g3 ?g4 ?g5 ?g6 ?g7 ?g8) ?kd ?ku ?_; (case k1 => k_asm); (case k2 => k_asm); (case k3 => k_asm); (case k4 => k_asm); (case k5 => k_asm); (case g1 => k_mem); (case g2 => k_mem); (case g3 => k_mem); (case g4 => with_reducible assumption); (case g5 => with_reducible assumption); (case g6 => with_reducible assumption); (case g7 => with_reducible assumption); (case g8 => with_reducible assumption);(case kd => k_room); (case ku => k_units); k_whole); intro v9_z h'_z tk9_z n9_z F'_z N'_z hP9; (obtain ⟨e9_z, e8_z⟩ := hP9; have e7_z := Eq.symm e9_z; clear e9_z; subst e7_z; subst e8_z); (try dsimp only))
  k_with "call ref" => (k_here; (with_reducible show wpAny _ _ (call (Value.ref 118) [_, Value.str _ _] _) _ _ _); k_dflt (refine' site_use ?k1 ?k2 ?k3 ?k4 ?k5 (get_some _ _ _ _ _ _ _ _ _ _ _ _ _ _ _ _ ?g1 ?g2 ?g3 ?g4 ?g5 ?g6 ?g7 ?g8) ?kd ?ku ?_; (case k1 => k_asm); (case k2 => k_asm); (case k3 => k_asm); (case k4 => k_asm); (case k5 => k_asm); (case g1 => k_mem); (case g2 => k_mem); (case g3 => k_mem); (case g4 => with_reducible assumption); (case g5 => with_reducible assumption); (case g6 => with_reducible assumption); (case g7 => with_reducible assumption); (case g8 => with_reducible assumption);(case kd => k_room); (case ku => k_units); k_whole); intro v9_z h'_z tk9_z n9_z F'_z N'_z hP9; (obtain ⟨e9_z, t9_z, e8_z⟩ := hP9; have e7_z := Eq.symm e9_z; clear e9_z; subst e7_z; subst e8_z); (try dsimp only))
  k_with "SrcLP" => (k_here; refine Stop.out ?_)
  k_with "CompSrc" => (k_here; refine Stop.out ?_)
  trivial
theorem keys_c (w : World) (dp un : Nat) (news : List (Addr × Obj)) (x dx l : Addr) (hsh : Int) (tk : Tok) (nn ep : Nat) (vs : List Value) (tab : List (PySem.Str × PySem.Str))
    (h1 : (x, instObj 171 dx) ∈ news) (h2 : (dx, dictOf [⟨hsh, .str (PySem.Str.ofString "_headers") tk, .ref l⟩] nn) ∈ news) (h3 : (l, listO vs ep) ∈ news) (hr : RowsAre news vs tab) (hsz : vs.length ≤ 1000) :
    Site w dp un 40 400 123 [.ref x] [] news (fun v _ n' => ∃ D ys, v = .ref D ∧ StrsAre ys (tab.map (·.1)) ∧ n' = (D, lst ys) :: news) := by
  unfold Site
  k_fill
  intro gd cn csn csg csc csm a ccd cl outer A₀ base h₀ L m s Q E p loose mean mg mb B F X N T hd hu hret
  refine wpAny_call ?_
  k_dflt k_enter
  k_steps
  unfold Stop
  refine LCp.SrcLP.ledger (by rfl) (by k_asm) (by k_asm) h3 (by rw [List.size_toArray, sizeLine_eq]; lia) ?_
  intro g
  refine keys_rest h3 hr (fun _ => rfl) (fun _ => rfl) (by decide) ?_ _ 0 [] (by simp) .nil
  intro ys hys
  k_steps
  exact hret _ _ _ _ (by k_asm) (by k_asm) ⟨_, _, rfl, hys, rfl⟩
end Mine88
end

-- part P8
section
open PySem PySem.W PyProof.Rows PySem.Spec PySem.Calls
set_option maxRecDepth 100000
set_option maxHeartbeats 8000000
namespace Mine88
open PyProof.Rows.LCg PyProof.Rows.LCt
theorem set_rows_P8 : True := by
  k_with_none
  k_with "call builtin:issubclass" => (k_here; (with_reducible show wpAny _ _ (call (Value.builtin "issubclass") [Value.type "str", Value.ref _]) _ _ _); k_dflt (refine' issub_call ?k1 ?_; (case k1 => exact News.get (by assumption) (by k_mem)); k_whole); intro tk_z)
  k_with "call ref" => (k_here; (with_reducible show wpAny _ _ (call (Value.ref 299) [Value.str _ _] _) _ _ _); refine Stop.out ?_)
  k_with "call ref" => (k_here; (with_reducible show wpAny _ _ (call (Value.ref 299) [Value.str _ _] _) _ _ _); k_dflt (refine' site_use ?k1 ?k2 ?k3 ?k4 ?k5 (get_sep_c _ _ _ _ _ _) ?kd ?ku ?_; (case k1 => k_asm); (case k2 => k_asm); (case k3 => k_asm); (case k4 => k_asm); (case k5 => k_asm); (case kd => k_room); (case ku => k_units); k_whole); intro v9_z h'_z tk9_z n9_z F'_z N'_z hP9; (obtain ⟨e9_z, t9_z, e8_z⟩ := hP9; have e7_z := Eq.symm e9_z; clear e9_z; subst e7_z; subst e8_z); (try dsimp only))
  k_with "call ref" => (k_here; (with_reducible show wpAny _ _ (call (Value.ref 285) [Value.str _ _] _) _ _ _); refine Stop.out ?_)
  k_with "call ref" => (k_here; (with_reducible show wpAny _ _ (call (Value.ref 285) [Value.str _ _] _) _ _ _); k_dflt (refine' site_use ?k1 ?k2 ?k3 ?k4 ?k5 (fspath_c _ _ _ _ _ _) ?kd ?ku ?_; (case k1 => k_asm); (case k2 => k_asm); (case k3 => k_asm); (case k4 => k_asm); (case k5 => k_asm); (case kd => k_room); (case ku => k_units); k_whole); intro v9_z h'_z tk9_z n9_z F'_z N'_z hP9; (obtain ⟨e9_z, e8_z⟩ := hP9; have e7_z := Eq.symm e9_z; clear e9_z; subst e7_z; subst e8_z); (try dsimp only))
  k_with "truthy str" => (k_here; (with_reducible show wpAny _ _ (PySem.truthy (Value.str _ _)) _ _ _); (refine' KXt.truthy_pos (K := 1000) ?kxta ?kxtb ?kxtc ?_; (case kxta => assumption); (case kxtb => assumption); (case kxtc => exact Nat.le_of_ble_eq_true rfl)); intro _)
  k_with "getMethod ref" => (k_here; (with_reducible show wpAny _ _ (getMethod (Value.ref 43) _ _) _ _ _); k_dflt (refine' re_getMethod ?k1 ?k2 ?k3 ?_; (case k1 => k_asm); (case k2 => k_asm); (case k3 => k_is); k_whole))
  k_with "getMethod ref" => (k_here; (with_reducible show wpAny _ _ (getMethod (Value.ref 48) _ _) _ _ _); k_dflt (refine' re_getMethod ?k1 ?k2 ?k3 ?_; (case k1 => k_asm); (case k2 => k_asm); (case k3 => k_is); k_whole))
  k_with "call builtin:re.Pattern.search" => (k_here; k_dflt (refine' re_call (cd := codeN) ?k1 ?k2 ?k3 ?k4 ?k5 ?k6 ?_; (case k1 => k_asm); (case k2 => k_asm); (case k3 => k_is); (case k4 => k_is); (case k5 => decide +kernel); (case k6 => with_reducible assumption); k_whole))
  k_with "call builtin:re.Pattern.search" => (k_here; k_dflt (refine' re_call (cd := codeV) ?k1 ?k2 ?k3 ?k4 ?k5 ?k6 ?_; (case k1 => k_asm); (case k2 => k_asm); (case k3 => k_is); (case k4 => k_is); (case k5 => decide +kernel); (case k6 => with_reducible assumption); k_whole))
  k_with "call ref" => (k_here; (with_reducible show wpAny _ _ (call (Value.ref 70) [_, Value.str _ _] _) _ _ _); refine Stop.out ?_)
  k_with "call ref" => (k_here; (with_reducible show wpAny _ _ (call (Value.ref 70) [_, Value.str _ _] _) _ _ _); k_dflt (refine' site_use ?k1 ?k2 ?k3 ?k4 ?k5 (conv_name _ _ _ _ _ _ _ (by with_reducible assumption)) ?kd ?ku ?_; (case k1 => k_asm); (case k2 => k_asm); (case k3 => k_asm); (case k4 => k_asm); (case k5 => k_asm); (case kd => k_room); (case ku => k_units); k_whole); intro v9_z h'_z tk9_z n9_z F'_z N'_z hP9; (obtain ⟨e9_z, e8_z⟩ := hP9; have e7_z := Eq.symm e9_z; clear e9_z; subst e7_z; subst e8_z); (try dsimp only))
  k_with "call ref" => (k_here; (with_reducible show wpAny _ _ (call (Value.ref 70) [_, Value.str _ _] _) _ _ _); k_dflt (refine' site_use ?k1 ?k2 ?k3 ?k4 ?k5 (conv_value _ _ _ _ _ _ _ (by with_reducible assumption)) ?kd ?ku ?_; (case k1 => k_asm); (case k2 => k_asm); (case k3 => k_asm); (case k4 => k_asm); (case k5 => k_asm); (case kd => k_room); (case ku => k_units); k_whole); intro v9_z h'_z tk9_z n9_z F'_z N'_z hP9; (obtain ⟨e9_z, e8_z⟩ := hP9; have e7_z := Eq.symm e9_z; clear e9_z; subst e7_z; subst e8_z); (try dsimp only))
  k_with "call builtin:list.append" => (k_here; (with_reducible show wpAny _ _ (call (Value.builtin _) [Value.ref _, _]) _ _ _); k_dflt (refine' append_in ?k1 ?k2 ?k3 ?k4 ?_; (case k1 => k_asm); (case k2 => k_asm); (case k3 => k_mem); (case k4 => first | assumption | (simp only [List.length_append, List.length_cons, List.length_nil]; omega)); k_whole); intro h'_z F'_z N'_z)
  k_with "call ref" => (k_here; (with_reducible show wpAny _ _ (call (Value.ref 118) [_, Value.str _ _] _) _ _ _); refine Stop.out ?_)
  k_with "call ref" => (k_here; (with_reducible show wpAny _ _ (call (Value.ref 118) [_, Value.str _ _] _) _ _ _); k_dflt (refine' site_use ?k1 ?k2 ?k3 ?k4 ?k5 (get_none _ _ _ _ _ _ _ _ _ _ _ _ _ _ _ ?g1 ?g2 ?g3 ?g4 ?g5 ?g6 ?g7 ?g8) ?kd ?ku ?_; (case k1 => k_asm); (case k2 => k_asm); (case k3 => k_asm); (case k4 => k_asm); (case k5 => k_asm); (case g1 => k_mem); (case g2 => k_mem); (case g3 => k_mem); (case g4 => with_reducible assumption); (case g5 => with_reducible assumption); (case g6 => with_reducible assumption); (case g7 => with_reducible assumption); (case g8 => with_reducible assumption);(case kd => k_room); (case ku => k_units); k_whole); intro v9_z h'_z tk9_z n9_z F'_z N'_z hP9; (obtain ⟨e9_z, e8_z⟩ := hP9; have e7_z := Eq.symm e9_z; clear e9_z; subst e7_z; subst e8_z); (try dsimp only))
  k_with "call ref" => (k_here; (with_reducible show wpAny _ _ (call (Value.ref 118) [_, Value.str _ _] _) _ _ _); k_dflt (refine' site_use ?k1 ?k2 ?k3 ?k4 ?k5 (get_some _ _ _ _ _ _ _ _ _ _ _ _ _ _ _ _ ?g1 ?g2 ?g3 ?g4 ?g5 ?g6 ?g7 ?g8) ?kd ?ku ?_; (case k1 => k_asm); (case k2 => k_asm); (case k3 => k_asm); (case k4 => k_asm); (case k5 => k_asm); (case g1 => k_mem); (case g2 => k_mem); (case g3 => k_mem); (case g4 => with_reducible assumption); (case g5 => with_reducible assumption); (case g6 => with_reducible assumption); (case g7 => with_reducible assumption); (case g8 => with_reducible assumption);(case kd => k_room); (case ku => k_units); k_whole); intro v9_z h'_z tk9_z n9_z F'_z N'_z hP9; (obtain ⟨e9_z, t9_z, e8_z⟩ := hP9; have e7_z := Eq.symm e9_z; clear e9_z; subst e7_z; subst e8_z); (try dsimp only))
  k_with "SrcLP" => (k_here; refine Stop.out ?_)
  k_with "CompSrc" => (k_here; refine Stop.out ?_)
  k_with "CompSrcT" => (k_here; refine Stop.out ?_)
  trivial
theorem delitem_c (w : World) (dp un : Nat) (news : List (Addr × Obj)) (x dx l : Addr) (hsh : Int) (tk tn : Tok) (nn ep : Nat) (vs : List Value) (tab : List (PySem.Str × PySem.Str)) (name : PySem.Str)
    (h1 : (x, instObj 171 dx) ∈ news) (h2 : (dx, dictOf [⟨hsh, .str (PySem.Str.ofString "_headers") tk, .ref l⟩] nn) ∈ news) (h3 : (l, listO vs ep) ∈ news) (hr : RowsAre news vs tab) (hb : ∀ kv ∈ tab, kv.1.length ≤ 1000) (hsz : vs.length ≤ 1000)
    (hc : reFails codeN (Txt.lower name) = true) (hn : name.length ≤ 1000) :
    Site w dp un 40 400 89 [.ref x, .str name tn] [] news (fun v _ n' => v = .none ∧ ∃ vs' e', RowsAre news vs' (tab.filter fun kv => !(Txt.lower kv.1 == Txt.lower name)) ∧ n' = setAt l (listO vs' e') news) := by
  unfold Site
  k_fill
  intro gd cn csn csg csc csm a ccd cl outer A₀ base h₀ L m s Q E p loose mean mg mb B F X N T hd hu hret
  refine wpAny_call ?_
  k_dflt k_enter
  k_steps
  unfold Stop
  refine compT_src (fun r ys => ∃ tab' dn, RowsAre news r tab' ∧ RowsAre news ys dn ∧ dn ++ tab'.filter (fun kv => !(Txt.lower kv.1 == Txt.lower name)) = tab.filter (fun kv => !(Txt.lower kv.1 == Txt.lower name)) ∧ ∀ kv ∈ tab', kv.1.length ≤ 1000) (by rfl) (by k_asm) (by k_asm) (by k_mem) hsz ⟨tab, [], hr, .nil, rfl, hb⟩ ?_ ?_
  · intro v r ys I oI C oC D m₂ hX tkX E' hJ hC hx FX NX off ne
    obtain ⟨tab', dn, hr', hd', he, hb'⟩ := hJ
    cases hr' with
    | @cons _ _ kv tab'' row hr'' =>
      obtain ⟨T, t1, t2, e, rfl, hm⟩ := row
      have hkb : kv.1.length ≤ 1000 := hb' _ (List.mem_cons_self ..)
      k_steps
      · (rename (_ != _) = true => hne)
        refine PEnd.intro (by k_asm) (by assumption) (fun _ h => h) ⟨tab'', dn ++ [kv], hr'', hd'.snoc ⟨T, t1, t2, e, rfl, hm⟩, ?_, fun kv hk => hb' kv (List.mem_cons_of_mem _ hk)⟩
        rw [← he, List.filter_cons, if_pos (by simpa [bne] using hne), List.append_assoc]; rfl
      · (rename (_ != _) = false => hne)
        refine PEnd.intro (by k_asm) (by assumption) (fun _ h => h) ⟨tab'', dn, hr'', hd', ?_, fun kv hk => hb' kv (List.mem_cons_of_mem _ hk)⟩
        rw [← he, List.filter_cons, if_neg (by simpa [bne] using hne)]
  · intro g ys hJ
    obtain ⟨tab', dn, hr', hd', he, hb'⟩ := hJ
    cases hr'
    rw [List.filter_nil, List.append_nil] at he
    subst he
    k_steps
    (rename _ ∧ LCg.Off1 _ _ => o1)
    refine setItem_slice (by k_asm) (by k_asm) (by k_mem) (List.Mem.head _) (off1_ne o1.2 _ h3) hsz ?_ ?_
    · rw [hd'.length]; exact Nat.le_trans (List.length_filter_le _ _) (by rw [← hr.length]; exact hsz)
    · intro h'' n'' FZ NZ
      k_steps
      refine hret _ _ _ _ (by k_asm) (cb_drop (by (rename News _ _ _ _ => KN); exact KN) ?_) ⟨rfl, _, n'', hd', rfl⟩
      intro p hp
      obtain ⟨q, hq, rfl⟩ := List.mem_map.mp hp
      exact List.mem_map.mpr ⟨q, List.mem_cons_of_mem _ (List.mem_cons_of_mem _ hq), rfl⟩
end Mine88
end

-- part P9
section
open PySem PySem.W PyProof.Rows PySem.Spec PySem.Calls
set_option maxRecDepth 100000
set_option maxHeartbeats 8000000
namespace Mine88
open PyProof.Rows.LCg PyProof.Rows.LCt
section
variable {M : Model} {A : Around} {E : Value → Shared → Prop} {s : Shared} {K : Frag} {x C L f : Addr} {h₀ : Heap} {m : PySem.Str → Option Value} {ox : Obj} {od : Option Obj} {i : Value}
theorem delItem_K {Q : Unit → Shared → Prop} (F : Fr h₀ L s.heap m) (X₀ : K.In h₀) (I : InstAt s.heap x ox C od) (hq : noSeq K C = true) (hs : findIn K (.ref C) "__delitem__" = some (some (.ref f))) (hf : isFn K (.ref f) = true)
    (h : wpAny M A (call (.ref f) [.ref x, i]) (fun _ s' => Q () s') E s) : wpAny M A (delItem (.ref x) i) Q E s := by
  have X := X₀.keeps F.keep
  unfold delItem sequenceKey
  refine wpAny_holding (wpAny_bind (wpAny_bind (I.type.here ?_)))
  refine wpAny_bind ((anyM_none X hq).here ?_)
  rw [if_pos (show (!false) = true from rfl)]
  exact wpAny_pure (wpAny_bind (special_fn X I hs (beq_iff_eq.mp hf) (wpAny_mono h (fun _ _ z => wpAny_pure z) fun _ _ z => z)))
end
theorem setAt_cons_setAt {l : Addr} {o1 o2 : Obj} {q : Addr × Obj} {news : List (Addr × Obj)} : setAt l o2 (q :: setAt l o1 news) = setAt l o2 (q :: news) := by
  simp only [setAt, List.map_cons, List.map_map]
  congr 1
  apply List.map_congr_left
  intro p _
  by_cases e : p.1 = l <;> simp [e]
theorem lt_of_setAt {l D : Addr} {o o₀ : Obj} {news : List (Addr × Obj)} (hl : (l, o₀) ∈ news) (h : ∀ p ∈ setAt l o news, p.1 < D) : ∀ p ∈ news, p.1 < D := by
  intro p hp
  by_cases e : p.1 = l
  · have := h _ (mem_setAt_self (o := o) hl); rw [e]; exact this
  · exact h _ (mem_setAt_of hp e)
theorem set_rows_P9 : True := by
  k_with_none
  k_with "call builtin:issubclass" => (k_here; (with_reducible show wpAny _ _ (call (Value.builtin "issubclass") [Value.type "str", Value.ref _]) _ _ _); k_dflt (refine' issub_call ?k1 ?_; (case k1 => exact News.get (by assumption) (by k_mem)); k_whole); intro tk_z)
  k_with "call ref" => (k_here; (with_reducible show wpAny _ _ (call (Value.ref 299) [Value.str _ _] _) _ _ _); refine Stop.out ?_)
  k_with "call ref" => (k_here; (with_reducible show wpAny _ _ (call (Value.ref 299) [Value.str _ _] _) _ _ _); k_dflt (refine' site_use ?k1 ?k2 ?k3 ?k4 ?k5 (get_sep_c _ _ _ _ _ _) ?kd ?ku ?_; (case k1 => k_asm); (case k2 => k_asm); (case k3 => k_asm); (case k4 => k_asm); (case k5 => k_asm); (case kd => k_room); (case ku => k_units); k_whole); intro v9_z h'_z tk9_z n9_z F'_z N'_z hP9; (obtain ⟨e9_z, t9_z, e8_z⟩ := hP9; have e7_z := Eq.symm e9_z; clear e9_z; subst e7_z; subst e8_z); (try dsimp only))
  k_with "call ref" => (k_here; (with_reducible show wpAny _ _ (call (Value.ref 285) [Value.str _ _] _) _ _ _); refine Stop.out ?_)
  k_with "call ref" => (k_here; (with_reducible show wpAny _ _ (call (Value.ref 285) [Value.str _ _] _) _ _ _); k_dflt (refine' site_use ?k1 ?k2 ?k3 ?k4 ?k5 (fspath_c _ _ _ _ _ _) ?kd ?ku ?_; (case k1 => k_asm); (case k2 => k_asm); (case k3 => k_asm); (case k4 => k_asm); (case k5 => k_asm); (case kd => k_room); (case ku => k_units); k_whole); intro v9_z h'_z tk9_z n9_z F'_z N'_z hP9; (obtain ⟨e9_z, e8_z⟩ := hP9; have e7_z := Eq.symm e9_z; clear e9_z; subst e7_z; subst e8_z); (try dsimp only))
  k_with "truthy str" => (k_here; (with_reducible show wpAny _ _ (PySem.truthy (Value.str _ _)) _ _ _); (refine' KXt.truthy_pos (K := 1000) ?kxta ?kxtb ?kxtc ?_; (case kxta => assumption); (case kxtb => assumption); (case kxtc => exact Nat.le_of_ble_eq_true rfl)); intro _)
  k_with "getMethod ref" => (k_here; (with_reducible show wpAny _ _ (getMethod (Value.ref 43) _ _) _ _ _); k_dflt (refine' re_getMethod ?k1 ?k2 ?k3 ?_; (case k1 => k_asm); (case k2 => k_asm); (case k3 => k_is); k_whole))
  k_with "getMethod ref" => (k_here; (with_reducible show wpAny _ _ (getMethod (Value.ref 48) _ _) _ _ _); k_dflt (refine' re_getMethod ?k1 ?k2 ?k3 ?_; (case k1 => k_asm); (case k2 => k_asm); (case k3 => k_is); k_whole))
  k_with "call builtin:re.Pattern.search" => (k_here; k_dflt (refine' re_call (cd := codeN) ?k1 ?k2 ?k3 ?k4 ?k5 ?k6 ?_; (case k1 => k_asm); (case k2 => k_asm); (case k3 => k_is); (case k4 => k_is); (case k5 => decide +kernel); (case k6 => with_reducible assumption); k_whole))
  k_with "call builtin:re.Pattern.search" => (k_here; k_dflt (refine' re_call (cd := codeV) ?k1 ?k2 ?k3 ?k4 ?k5 ?k6 ?_; (case k1 => k_asm); (case k2 => k_asm); (case k3 => k_is); (case k4 => k_is); (case k5 => decide +kernel); (case k6 => with_reducible assumption); k_whole))
  k_with "call ref" => (k_here; (with_reducible show wpAny _ _ (call (Value.ref 70) [_, Value.str _ _] _) _ _ _); refine Stop.out ?_)
  k_with "call ref" => (k_here; (with_reducible show wpAny _ _ (call (Value.ref 70) [_, Value.str _ _] _) _ _ _); k_dflt (refine' site_use ?k1 ?k2 ?k3 ?k4 ?k5 (conv_name _ _ _ _ _ _ _ (by with_reducible assumption)) ?kd ?ku ?_; (case k1 => k_asm); (case k2 => k_asm); (case k3 => k_asm); (case k4 => k_asm); (case k5 => k_asm); (case kd => k_room); (case ku => k_units); k_whole); intro v9_z h'_z tk9_z n9_z F'_z N'_z hP9; (obtain ⟨e9_z, e8_z⟩ := hP9; have e7_z := Eq.symm e9_z; clear e9_z; subst e7_z; subst e8_z); (try dsimp only))
  k_with "call ref" => (k_here; (with_reducible show wpAny _ _ (call (Value.ref 70) [_, Value.str _ _] _) _ _ _); k_dflt (refine' site_use ?k1 ?k2 ?k3 ?k4 ?k5 (conv_value _ _ _ _ _ _ _ (by with_reducible assumption)) ?kd ?ku ?_; (case k1 => k_asm); (case k2 => k_asm); (case k3 => k_asm); (case k4 => k_asm); (case k5 => k_asm); (case kd => k_room); (case ku => k_units); k_whole); intro v9_z h'_z tk9_z n9_z F'_z N'_z hP9; (obtain ⟨e9_z, e8_z⟩ := hP9; have e7_z := Eq.symm e9_z; clear e9_z; subst e7_z; subst e8_z); (try dsimp only))
  k_with "call builtin:list.append" => (k_here; (with_reducible show wpAny _ _ (call (Value.builtin _) [Value.ref _, _]) _ _ _); k_dflt (refine' append_in ?k1 ?k2 ?k3 ?k4 ?_; (case k1 => k_asm); (case k2 => k_asm); (case k3 => k_mem); (case k4 => first | assumption | (simp only [List.length_append, List.length_cons, List.length_nil]; omega)); k_whole); intro h'_z F'_z N'_z)
  k_with "call ref" => (k_here; (with_reducible show wpAny _ _ (call (Value.ref 118) [_, Value.str _ _] _) _ _ _); refine Stop.out ?_)
  k_with "call ref" => (k_here; (with_reducible show wpAny _ _ (call (Value.ref 118) [_, Value.str _ _] _) _ _ _); k_dflt (refine' site_use ?k1 ?k2 ?k3 ?k4 ?k5 (get_none _ _ _ _ _ _ _ _ _ _ _ _ _ _ _ ?g1 ?g2 ?g3 ?g4 ?g5 ?g6 ?g7 ?g8) ?kd ?ku ?_; (case k1 => k_asm); (case k2 => k_asm); (case k3 => k_asm); (case k4 => k_asm); (case k5 => k_asm); (case g1 => k_mem); (case g2 => k_mem); (case g3 => k_mem); (case g4 => with_reducible assumption); (case g5 => with_reducible assumption); (case g6 => with_reducible assumption); (case g7 => with_reducible assumption); (case g8 => with_reducible assumption);(case kd => k_room); (case ku => k_units); k_whole); intro v9_z h'_z tk9_z n9_z F'_z N'_z hP9; (obtain ⟨e9_z, e8_z⟩ := hP9; have e7_z := Eq.symm e9_z; clear e9_z; subst e7_z; subst e8_z); (try dsimp only))
  k_with "call ref" => (k_here; (with_reducible show wpAny _ _ (call (Value.ref 118) [_, Value.str _ _] _) _ _ _); k_dflt (refine' site_use ?k1 ?k2 ?k3 ?k4 ?k5 (get_some _ _ _ _ _ _ _ _ _ _ _ _ _ _ _ _ ?g1 ?g2 ?g3 ?g4 ?g5 ?g6 ?g7 ?g8) ?kd ?ku ?_; (case k1 => k_asm); (case k2 => k_asm); (case k3 => k_asm); (case k4 => k_asm); (case k5 => k_asm); (case g1 => k_mem); (case g2 => k_mem); (case g3 => k_mem); (case g4 => with_reducible assumption); (case g5 => with_reducible assumption); (case g6 => with_reducible assumption); (case g7 => with_reducible assumption); (case g8 => with_reducible assumption);(case kd => k_room); (case ku => k_units); k_whole); intro v9_z h'_z tk9_z n9_z F'_z N'_z hP9; (obtain ⟨e9_z, t9_z, e8_z⟩ := hP9; have e7_z := Eq.symm e9_z; clear e9_z; subst e7_z; subst e8_z); (try dsimp only))
  k_with "delItem ref" => (k_here; (with_reducible show wpAny _ _ (delItem (Value.ref _) _) _ _ _); k_dflt (refine' delItem_K ?F ?X ?I ?hQ ?hS ?hF ?_; (case F => k_asm); (case X => k_asm); (case I => k_inst); (case hS => k_is); (case hF => k_is); (case hQ => k_is); k_whole))
  k_with "delItem" => (k_here; (with_reducible show wpAny _ _ (delItem (Value.ref _) _) _ _ _); k_dflt (refine' delItem_K ?F ?X ?I ?hQ ?hS ?hF ?_; (case F => k_asm); (case X => k_asm); (case I => k_inst); (case hS => k_is); (case hF => k_is); (case hQ => k_is); k_whole))
  k_with "call ref" => (k_here; (with_reducible show wpAny _ _ (call (Value.ref 89) _ _) _ _ _); refine Stop.out ?_)
  trivial
theorem setitem_c (w : World) (dp un : Nat) (news : List (Addr × Obj)) (x dx l : Addr) (hsh : Int) (tkh tn tv : Tok) (nn ep : Nat) (vs : List Value) (tab : List (PySem.Str × PySem.Str)) (name value : PySem.Str)
    (h1 : (x, instObj 171 dx) ∈ news) (h2 : (dx, dictOf [⟨hsh, .str (PySem.Str.ofString "_headers") tkh, .ref l⟩] nn) ∈ news) (h3 : (l, listO vs ep) ∈ news) (hr : RowsAre news vs tab) (hb : ∀ kv ∈ tab, kv.1.length ≤ 1000) (hsz : vs.length ≤ 1000)
    (hc : reFails codeN (Txt.lower name) = true) (hc1 : reFails codeN name = true) (hc2 : reFails codeV value = true) (hn : name.length ≤ 1000) :
    Site w dp un 60 600 84 [.ref x, .str name tn, .str value tv] [] news (fun v _ n' => v = .none ∧ ∃ vs' e' D e2, (∀ p ∈ news, p.1 < D) ∧ RowsAre news vs' (tab.filter fun kv => !(Txt.lower kv.1 == Txt.lower name)) ∧
      n' = setAt l (listO (vs' ++ [.ref D]) (e' + 1)) ((D, { cls := .type "tuple", data := .seq #[.str name tn, .str value tv] e2 }) :: news)) := by
  unfold Site
  k_fill
  intro gd cn csn csg csc csm a ccd cl outer A₀ base h₀ L m s Q E p loose mean mg mb B F X N T hd hu hret
  refine wpAny_call ?_
  k_dflt k_enter
  k_steps
  unfold Stop
  k_dflt (refine' site_use ?k1 ?k2 ?k3 ?k4 ?k5 (delitem_c _ _ _ _ x dx l hsh tkh tn nn ep vs tab name h1 h2 h3 hr hb hsz hc hn) ?kd ?ku ?_)
  case k1 => k_asm
  case k2 => k_asm
  case k3 => k_asm
  case k4 => k_asm
  case k5 => k_asm
  case kd => k_room
  case ku => k_units
  intro v9 hZ tk9 n9 FZ NZ hP9
  (try dsimp only at FZ NZ hP9)
  (try dsimp only)
  obtain ⟨rfl, vs', e', hr', rfl⟩ := hP9
  have m1 : (x, instObj 171 dx) ∈ setAt l (listO vs' e') news := mem_setAt_of h1 (apart_of N h1 h3 (by intro e; cases e))
  have m2 : (dx, dictOf [⟨hsh, .str (PySem.Str.ofString "_headers") tkh, .ref l⟩] nn) ∈ setAt l (listO vs' e') news := mem_setAt_of h2 (apart_of N h2 h3 (by intro e; exact absurd (Value.type.inj e) (by decide)))
  have m3 : (l, listO vs' e') ∈ setAt l (listO vs' e') news := mem_setAt_self h3
  have hsz' : vs'.length ≤ 1000 := by rw [hr'.length]; exact Nat.le_trans (List.length_filter_le _ _) (by rw [← hr.length]; exact hsz)
  k_steps
  (rename (∀ p ∈ setAt _ _ _, p.1 < _) => hlt)
  exact hret _ _ _ _ (by k_asm) (by rw [← setAt_cons_setAt]; assumption) ⟨rfl, vs', e', _, _, lt_of_setAt h3 hlt, hr', rfl⟩
end Mine88
end

-- part P10
section
open PySem PySem.W PyProof.Rows PySem.Spec PySem.Calls
set_option maxRecDepth 100000
set_option maxHeartbeats 8000000
namespace Mine88
/-! the texts of the law -/
noncomputable abbrev S (l : List Nat) : PySem.Str := ⟨l.toArray⟩
noncomputable def isSign (c : Nat) : Bool := c == 47 || c == 65 || c == 97 || c == 66 || c == 98 || c == 95
noncomputable def lowC (c : Nat) : Nat := if c = 65 then 97 else if c = 66 then 98 else c
theorem sign_cases {c : Nat} (h : isSign c = true) : c = 47 ∨ c = 65 ∨ c = 97 ∨ c = 66 ∨ c = 98 ∨ c = 95 := by
  simpa only [isSign, Bool.or_eq_true, beq_iff_eq, or_assoc] using h
theorem lowerOf_sign {c : Nat} (h : isSign c = true) : Unicode.lowerOf c = [lowC c] := by
  rcases sign_cases h with rfl | rfl | rfl | rfl | rfl | rfl <;> decide +kernel
theorem lower_S {l : List Nat} (h : l.all isSign = true) : Txt.lower (S l) = S (l.map lowC) := by
  have e : (l.toArray.mapIdx fun i (_ : Nat) => (Unicode.lowerAt l.toArray i).toArray).toList = l.map fun c => #[lowC c] := by
    rw [Array.toList_mapIdx]
    apply List.ext_getElem
    · simp
    · intro i h1 h2
      have hi : i < l.length := by simpa using h1
      have hc := List.all_eq_true.mp h _ (List.getElem_mem hi)
      simp only [List.getElem_mapIdx, List.getElem_map]
      unfold Unicode.lowerAt
      rw [show l.toArray[i]? = some l[i] by simp [hi]]
      dsimp only
      rw [if_neg (by rcases sign_cases hc with e | e | e | e | e | e <;> rw [e] <;> simp), lowerOf_sign hc]
  have e2 : (placed (S l) fun i _ => Unicode.lowerAt l.toArray i).toList = l.map lowC := by
    unfold placed
    rw [Array.toList_flatten, e, List.map_map]
    clear e h
    induction l with
    | nil => rfl
    | cons c r ih => simp [ih]
  show (⟨placed (S l) fun i _ => Unicode.lowerAt l.toArray i⟩ : PySem.Str) = ⟨(l.map lowC).toArray⟩
  congr 1
  rw [← e2]
theorem in_codeN {c : Nat} (h : isSign c = true) (seen : Sre.Seen) : ∃ seen', Sre.inSet codeN c codeN.size 5 true seen = .ok (false, seen') := by
  rcases sign_cases h with rfl | rfl | rfl | rfl | rfl | rfl <;> exact ⟨_, rfl⟩
theorem in_codeV {c : Nat} (h : isSign c = true) (seen : Sre.Seen) : ∃ seen', Sre.inSet codeV c codeV.size 5 true seen = .ok (false, seen') := by
  rcases sign_cases h with rfl | rfl | rfl | rfl | rfl | rfl <;> exact ⟨_, rfl⟩
theorem admitted_none {m : Sre.M} {l : List Nat} (hm : m.text = l.toArray) (hl : m.lim = l.length) (hs : l.all isSign = true) (hi : ∀ c, isSign c = true → ∀ seen, ∃ seen', Sre.inSet m.code c m.code.size 5 true seen = .ok (false, seen')) :
    ∀ fuel s seen, ∃ seen', Sre.M.admitted m fuel s seen = .ok (none, seen') := by
  intro fuel
  induction fuel with
  | zero => intro s seen; exact ⟨_, rfl⟩
  | succ n ih =>
    intro s seen
    unfold Sre.M.admitted
    by_cases h : s ≥ m.lim
    · rw [if_pos h]; exact ⟨_, rfl⟩
    · rw [if_neg h]
      have hlt : s < l.length := by omega
      have e : m.text.getD s 0 = l[s] := by rw [hm]; simp [hlt]
      rw [e]
      obtain ⟨seen', e'⟩ := hi l[s] (List.all_eq_true.mp hs _ (List.getElem_mem hlt)) seen
      rw [e']
      exact ih _ _
theorem search_fails {code : Array Nat} {l : List Nat} {m : Sre.M} (hm : m.text = l.toArray) (hl : m.lim = l.length) (hs : l.all isSign = true) (hcd : m.code = code) (hf : m.hasFirstSet = true)
    (hc : ∀ c, isSign c = true → ∀ seen, ∃ seen', Sre.inSet code c code.size 5 true seen = .ok (false, seen')) (ho : m.outcome = none) (hfr : m.frames = []) : ((m.attemptFrom 0 true).runFor 4).outcome = some .failed := by
  obtain ⟨seen', e'⟩ := admitted_none hm hl hs (by rw [hcd]; exact hc) (m.lim + 1 - 0) 0 m.seen
  unfold Sre.M.attemptFrom
  rw [hf, e']
  obtain ⟨code', text, lim, start, ls, wt, ma, pc, pos, handed, outer, marks, lm, li, loops, inner, frames, weight, answer, seen, outcome⟩ := m
  dsimp only at ho hfr
  subst ho hfr
  rfl
theorem reFails_of {code : Array Nat} {l : List Nat} (hs : l.all isSign = true) (hn : l.length ≤ 1000) (hc : ∀ c, isSign c = true → ∀ seen, ∃ seen', Sre.inSet code c code.size 5 true seen = .ok (false, seen'))
    (hh : (Sre.header code).1 = 1) (hf : ∀ m : Sre.M, m.code = code → m.hasFirstSet = true) : reFails code (S l) = true := by
  unfold reFails
  have e : min (2 ^ 63 - 1 : Int).toNat (S l).cps.size = l.length := by
    have h1 : (S l).cps.size = l.length := by simp
    have h2 : (2 ^ 63 - 1 : Int).toNat = 9223372036854775807 := by decide
    rw [h1, h2]
    exact Nat.min_eq_right (Nat.le_trans hn (by decide))
  rw [e]
  have key : ((Sre.forSearch code (S l).cps 0 0 l.length false).runFor 4).outcome = some .failed := by
    unfold Sre.forSearch
    dsimp only
    rw [hh]
    by_cases h0 : l.length = 0
    · rw [h0]; rfl
    · rw [if_neg (by intro h; simp only [Bool.or_eq_true, decide_eq_true_eq] at h; lia)]
      exact search_fails (code := code) (l := l) rfl rfl hs rfl (hf _ rfl) hc rfl rfl
  rw [key]
theorem cleanN {l : List Nat} (hs : l.all isSign = true) (hn : l.length ≤ 1000) : reFails codeN (S l) = true := reFails_of hs hn (fun _ h => in_codeN h) (by decide +kernel) (fun m h => by unfold Sre.M.hasFirstSet; rw [h]; decide +kernel)
theorem cleanV {l : List Nat} (hs : l.all isSign = true) (hn : l.length ≤ 1000) : reFails codeV (S l) = true := reFails_of hs hn (fun _ h => in_codeV h) (by decide +kernel) (fun m h => by unfold Sre.M.hasFirstSet; rw [h]; decide +kernel)

noncomputable def pathL (p : List Nat) : List Nat := if p = [] then [47] else p.flatMap fun c => [47, c]
noncomputable abbrev path (p : List Nat) : PySem.Str := S (pathL p)
noncomputable def isLetter (c : Nat) : Bool := c == 65 || c == 97 || c == 66 || c == 98 || c == 95
/-- all lists of n letters -/
noncomputable def wordsOf : Nat → List (List Nat)
  | 0 => [[]]
  | n + 1 => (wordsOf n).flatMap fun w => [65 :: w, 97 :: w, 66 :: w, 98 :: w, 95 :: w]
theorem mem_wordsOf : ∀ {w : List Nat}, w.all isLetter = true → w ∈ wordsOf w.length
  | [], _ => by simp [wordsOf]
  | c :: w, h => by
    simp only [List.all_cons, Bool.and_eq_true] at h
    have ih := mem_wordsOf h.2
    have hc := h.1
    simp only [isLetter, Bool.or_eq_true, beq_iff_eq] at hc
    refine List.mem_flatMap.mpr ⟨w, ih, ?_⟩
    rcases hc with (((rfl | rfl) | rfl) | rfl) | rfl <;> simp
/-- what holds of all words of at most n letters is decided over them -/
theorem words_all {P : List Nat → Bool} {n : Nat} (h : ((List.range (n + 1)).all fun k => (wordsOf k).all P) = true) {w : List Nat} (hw : w.all isLetter = true) (hn : w.length ≤ n) : P w = true := by
  have h1 := List.all_eq_true.mp h w.length (List.mem_range.mpr (by lia))
  exact List.all_eq_true.mp h1 w (mem_wordsOf hw)
theorem path_len (p : List Nat) : (pathL p).length ≤ 2 * p.length + 1 := by
  have : ∀ p : List Nat, (p.flatMap fun c => [47, c]).length = 2 * p.length := by
    intro p
    induction p with
    | nil => rfl
    | cons c r ih => rw [List.flatMap_cons, List.length_append, ih]; simp only [List.length_cons, List.length_nil]; lia
  unfold pathL
  split
  · simp
  · rw [this]; lia
theorem sign_of_letter {c : Nat} (h : isLetter c = true) : isSign c = true := by
  simp only [isLetter, isSign, Bool.or_eq_true, beq_iff_eq] at h ⊢
  lia
theorem signs_of_letters {p : List Nat} (h : p.all isLetter = true) : p.all isSign = true := List.all_eq_true.mpr fun c hc => sign_of_letter (List.all_eq_true.mp h c hc)
theorem signs_path {p : List Nat} (h : p.all isLetter = true) : (pathL p).all isSign = true := by
  unfold pathL
  split
  · rfl
  · refine List.all_eq_true.mpr fun c hc => ?_
    obtain ⟨d, hd, hm⟩ := List.mem_flatMap.mp hc
    simp only [List.mem_cons, List.not_mem_nil, or_false] at hm
    rcases hm with rfl | rfl
    · rfl
    · exact sign_of_letter (List.all_eq_true.mp h _ hd)
theorem lower_path {p : List Nat} (h : p.all isLetter = true) : Txt.lower (path p) = path (p.map lowC) := by
  rw [lower_S (signs_path h)]
  unfold path pathL
  by_cases e : p = []
  · subst e; rfl
  · rw [if_neg e, if_neg (by simpa using e)]
    congr 2
    clear e h
    induction p with
    | nil => rfl
    | cons c r ih => simp only [List.flatMap_cons, List.map_append, List.map_cons, List.map_nil, ih]; rfl
theorem words4 : ((List.range 5).all fun k => (wordsOf k).all fun p => (Txt.endswith (path p) (PySem.Str.ofString "/") == decide (p = []))) = true := by decide +kernel
end Mine88
end

-- part P11
section
open PySem PySem.W PyProof.Rows PySem.Spec PySem.Calls
set_option maxRecDepth 100000
set_option maxHeartbeats 8000000
namespace Mine88
/-- the end of a while's turn that stores one name -/
noncomputable def WTurn {α : Type} (h₀ : Heap) (L : Addr) (s : Shared) (news : List (Addr × Obj)) (m₀ : PySem.Str → Option Value) (y : PySem.Str) (V : α → Value → Prop) (I : Nat → α → Prop) (n : Nat) (Q : Flow → Shared → Prop) (f : Flow) (s₂ : Shared) : Prop :=
  match f with
  | .brk => Q .next s₂
  | .ret v => Q (.ret v) s₂
  | _ => ∃ n' a v h tk, n' < n ∧ I n' a ∧ V a v ∧ s₂ = { s with heap := h, toks := tk } ∧ Fr h₀ L h (fun z => if z = y then some v else m₀ z) ∧ News h₀ L h news
theorem while_by {α : Type} {prog : PySem.Program} {w : World} {A : Around} {E : Value → Shared → Prop} {s : Shared} {env : Env} {test : PySem.Expr} {body orelse : List Stmt} {Q : Flow → Shared → Prop} {h₀ : Heap} {news : List (Addr × Obj)} {m₀ : PySem.Str → Option Value}
    (y : PySem.Str) (V : α → Value → Prop) (I : Nat → α → Prop) (hE : PassesOwn (model prog w) A env E)
    (turn : ∀ n a v h tk, I n a → V a v → Fr h₀ env.locals h (fun z => if z = y then some v else m₀ z) → News h₀ env.locals h news →
      wpAny (model prog w) A (isTrue test env (eval test env)) (fun b s₂ => WhlIf b (wpAny (model prog w) A (execs body env) (WTurn h₀ env.locals s news m₀ y V I n Q) E s₂) (wpAny (model prog w) A (execs orelse env) Q E s₂)) E { s with heap := h, toks := tk }) :
    ∀ n a v h tk, I n a → V a v → Fr h₀ env.locals h (fun z => if z = y then some v else m₀ z) → News h₀ env.locals h news → WhlRest prog w A E env test body orelse Q 0 { s with heap := h, toks := tk } := by
  intro n
  induction n using Nat.strongRecOn with
  | ind n ih =>
    intro a v h tk hI hV F N
    refine whl_turn (k := 0) hE (wpAny_mono (turn n a v h tk hI hV F N) (fun b s₂ z => ?_) fun _ _ e => e)
    unfold WhlIf at z ⊢
    split at z
    · rename_i hb; rw [if_pos hb]
      refine wpAny_mono z (fun f s₃ q => ?_) fun _ _ e => e
      cases f with
      | brk => exact q
      | ret v => exact q
      | next => obtain ⟨n', a', v', h', tk', hn, hI', hV', rfl, F', N'⟩ := q; exact ih n' hn a' v' h' tk' hI' hV' F' N'
      | cont => obtain ⟨n', a', v', h', tk', hn, hI', hV', rfl, F', N'⟩ := q; exact ih n' hn a' v' h' tk' hI' hV' F' N'
    · rename_i hb; rw [if_neg hb]; exact z
theorem while_start {α : Type} {prog : PySem.Program} {w : World} {A : Around} {E : Value → Shared → Prop} {s : Shared} {env : Env} {test : PySem.Expr} {body orelse : List Stmt} {Q : Flow → Shared → Prop} {h₀ : Heap} {news : List (Addr × Obj)} {m₀ : PySem.Str → Option Value} {pos : Pos}
    (y : PySem.Str) (V : α → Value → Prop) (I : Nat → α → Prop) {n : Nat} {a : α} {v : Value} (F : Fr h₀ env.locals s.heap m₀) (N : News h₀ env.locals s.heap news) (hm : m₀ y = some v) (hV : V a v) (hI : I n a) (hE : PassesOwn (model prog w) A env E)
    (turn : ∀ n a v h tk, I n a → V a v → Fr h₀ env.locals h (fun z => if z = y then some v else m₀ z) → News h₀ env.locals h news →
      wpAny (model prog w) A (isTrue test env (eval test env)) (fun b s₂ => WhlIf b (wpAny (model prog w) A (execs body env) (WTurn h₀ env.locals s news m₀ y V I n Q) E s₂) (wpAny (model prog w) A (execs orelse env) Q E s₂)) E { s with heap := h, toks := tk }) :
    wpAny (model prog w) A (exec (.While test body orelse pos) env) Q E s := by
  refine whl_start 0 (while_by (s := s) y V I hE turn n a v s.heap s.toks hI hV ?_ N)
  have e : (fun z => if z = y then some v else m₀ z) = m₀ := by
    funext z
    by_cases h : z = y
    · rw [if_pos h, h, hm]
    · rw [if_neg h]
  rw [e]; exact F

/-! the table by its keys' letters -/
noncomputable abbrev Tab := List (List Nat × PySem.Str)
noncomputable def rowsT (T : Tab) : List (PySem.Str × PySem.Str) := T.map fun kv => (path kv.1, kv.2)
noncomputable def getT (T : Tab) (p : List Nat) : Option PySem.Str := (T.find? fun kv => kv.1.map lowC == p.map lowC).map (·.2)
theorem pathL_inj {p q : List Nat} (h : pathL p = pathL q) : p = q := by
  have len : ∀ p : List Nat, (p.flatMap fun c => [47, c]).length = 2 * p.length := by
    intro p
    induction p with
    | nil => rfl
    | cons c r ih => rw [List.flatMap_cons, List.length_append, ih]; simp only [List.length_cons, List.length_nil]; lia
  have inj : ∀ p q : List Nat, (p.flatMap fun c => [47, c]) = (q.flatMap fun c => [47, c]) → p = q := by
    intro p
    induction p with
    | nil => intro q h; cases q with
      | nil => rfl
      | cons d t => simp at h
    | cons c r ih => intro q h; cases q with
      | nil => simp at h
      | cons d t =>
        simp only [List.flatMap_cons, List.cons_append, List.nil_append, List.cons.injEq, true_and] at h
        rw [h.1, ih t h.2]
  unfold pathL at h
  by_cases e1 : p = [] <;> by_cases e2 : q = []
  · rw [e1, e2]
  · rw [if_pos e1, if_neg e2] at h
    have := congrArg List.length h
    rw [len] at this; simp only [List.length_cons, List.length_nil] at this; lia
  · rw [if_neg e1, if_pos e2] at h
    have := congrArg List.length h
    rw [len] at this; simp only [List.length_cons, List.length_nil] at this; lia
  · rw [if_neg e1, if_neg e2] at h
    exact inj p q h
theorem path_inj {p q : List Nat} (h : path p = path q) : p = q := by
  have : (pathL p).toArray = (pathL q).toArray := by injection h
  exact pathL_inj (by simpa using congrArg Array.toList this)
theorem look_T {T : Tab} (hT : ∀ kv ∈ T, kv.1.all isLetter = true) {p : List Nat} (hp : p.all isLetter = true) : look (rowsT T) (Txt.lower (path p)) = getT T p := by
  unfold look getT rowsT
  rw [lower_path hp]
  induction T with
  | nil => rfl
  | cons kv r ih =>
    have ih' := ih fun q hq => hT q (List.mem_cons_of_mem _ hq)
    have hk := hT kv (List.mem_cons_self ..)
    simp only [List.map_cons, List.find?_cons]
    have e : (Txt.lower (path kv.1) == path (p.map lowC)) = (kv.1.map lowC == p.map lowC) := by
      rw [lower_path hk]
      by_cases h : kv.1.map lowC = p.map lowC
      · rw [h]; simp
      · have h' : path (kv.1.map lowC) ≠ path (p.map lowC) := fun e => h (path_inj e)
        rw [beq_eq_false_iff_ne.mpr h, beq_eq_false_iff_ne.mpr h']
    rw [e]
    cases kv.1.map lowC == p.map lowC with
    | true => rfl
    | false => exact ih'
/-- the table stands in the ledger -/
noncomputable def TabT (news : List (Addr × Obj)) (x dx l : Addr) (T : Tab) : Prop := (∃ hsh tkh nn vs ep, (x, instObj 171 dx) ∈ news ∧ (dx, dictOf [⟨hsh, .str (PySem.Str.ofString "_headers") tkh, .ref l⟩] nn) ∈ news ∧ (l, listO vs ep) ∈ news ∧ RowsAre news vs (rowsT T)) ∧
  T.length ≤ 100 ∧ ∀ kv ∈ T, kv.1.all isLetter = true ∧ kv.1.length ≤ 10
theorem TabT.bounds {news : List (Addr × Obj)} {x dx l : Addr} {T : Tab} (h : TabT news x dx l T) : ∀ kv ∈ rowsT T, kv.1.length ≤ 1000 := by
  intro kv hk
  obtain ⟨q, hq, rfl⟩ := List.mem_map.mp hk
  have := (h.2.2 q hq).2
  have h2 := path_len q.1
  show (pathL q.1).toArray.size ≤ 1000
  simp only [List.size_toArray]
  lia
theorem path_size {p : List Nat} (hl : p.length ≤ 10) : (path p).length ≤ 1000 := by
  have h2 := path_len p
  show (pathL p).toArray.size ≤ 1000
  simp only [List.size_toArray]
  lia
theorem pathL_size {p : List Nat} (hl : p.length ≤ 10) : (pathL p).length ≤ 1000 := by
  have h2 := path_len p
  lia
theorem low_letters {p : List Nat} (h : p.all isLetter = true) : (p.map lowC).all isLetter = true := by
  refine List.all_eq_true.mpr fun c hc => ?_
  obtain ⟨d, hd, rfl⟩ := List.mem_map.mp hc
  have := List.all_eq_true.mp h d hd
  simp only [isLetter, Bool.or_eq_true, beq_iff_eq] at this
  rcases this with (((rfl | rfl) | rfl) | rfl) | rfl <;> rfl
theorem getN (w : World) (dp un : Nat) (news : List (Addr × Obj)) (x dx l : Addr) (T : Tab) (p : List Nat) (tn : Tok) (hT : TabT news x dx l T) (hp : p.all isLetter = true) (hl : p.length ≤ 10) (h : getT T p = none) :
    Site w dp un 40 400 118 [.ref x, .str (path p) tn] [] news (fun v _ n' => n' = news ∧ v = .none) := by
  obtain ⟨⟨hsh, tkh, nn, vs, ep, h1, h2, h3, h4⟩, h5, h6⟩ := id hT
  refine get_none w dp un news x dx l hsh tkh tn nn ep vs (rowsT T) (path p) h1 h2 h3 h4 hT.bounds ?_ (path_size hl) (by rw [look_T (fun kv hk => (h6 kv hk).1) hp]; exact h)
  rw [lower_path hp]
  exact cleanN (signs_path (low_letters hp)) (pathL_size (by simpa using hl))
theorem getS (w : World) (dp un : Nat) (news : List (Addr × Obj)) (x dx l : Addr) (T : Tab) (p : List Nat) (y : PySem.Str) (tn : Tok) (hT : TabT news x dx l T) (hp : p.all isLetter = true) (hl : p.length ≤ 10) (h : getT T p = some y) :
    Site w dp un 40 400 118 [.ref x, .str (path p) tn] [] news (fun v _ n' => n' = news ∧ ∃ t, v = .str y t) := by
  obtain ⟨⟨hsh, tkh, nn, vs, ep, h1, h2, h3, h4⟩, h5, h6⟩ := id hT
  refine get_some w dp un news x dx l hsh tkh tn nn ep vs (rowsT T) (path p) y h1 h2 h3 h4 hT.bounds ?_ (path_size hl) (by rw [look_T (fun kv hk => (h6 kv hk).1) hp]; exact h)
  rw [lower_path hp]
  exact cleanN (signs_path (low_letters hp)) (pathL_size (by simpa using hl))
theorem path_nil (c : Nat) : path [] ++ S [c] = path ([] ++ [c]) := rfl
theorem path_snoc {p : List Nat} (h : p ≠ []) (c : Nat) : path p ++ (PySem.Str.ofString "/" ++ S [c]) = path (p ++ [c]) := by
  have e1 : (PySem.Str.ofString "/" : PySem.Str) = S [47] := by decide +kernel
  rw [e1]
  show (⟨(pathL p).toArray ++ ([47].toArray ++ [c].toArray)⟩ : PySem.Str) = ⟨(pathL (p ++ [c])).toArray⟩
  congr 1
  unfold pathL
  rw [if_neg h, if_neg (by simp)]
  simp
theorem joinP (w : World) (dp un : Nat) (news : List (Addr × Obj)) (p : List Nat) (c : Nat) (tx ty : Tok) (hp : p.all isLetter = true) (hc : isLetter c = true) (hl : p.length ≤ 4) :
    Site w dp un 20 200 306 [.str (path p) tx, .str (S [c]) ty] [] news (fun v _ n' => n' = news ∧ ∃ t, v = .str (path (p ++ [c])) t) := by
  have hy : Txt.startswith (S [c]) (PySem.Str.ofString "/") = false := by
    simp only [isLetter, Bool.or_eq_true, beq_iff_eq] at hc
    rcases hc with (((rfl | rfl) | rfl) | rfl) | rfl <;> decide +kernel
  have he : Txt.endswith (path p) (PySem.Str.ofString "/") = decide (p = []) := by
    have := words_all words4 hp hl
    simpa using this
  have h1 : 1 ≤ (path p).length := by
    show 1 ≤ (pathL p).toArray.size
    unfold pathL
    split
    · simp
    · cases p with
      | nil => contradiction
      | cons c r => simp
  by_cases hn : p = []
  · subst hn
    exact (join_c1 w dp un news (path []) (S [c]) tx ty hy h1 (path_size (by simp)) (by show [c].toArray.size ≤ 1000; simp) (by rw [he]; rfl))
  · exact (join_c2 w dp un news (path p) (S [c]) tx ty hy h1 (path_size (by lia)) (by show [c].toArray.size ≤ 1000; simp) (by rw [he]; simp [hn])).imp fun v h' n' ⟨a, t, b⟩ => ⟨a, t, by rw [← path_snoc hn]; exact b⟩
end Mine88
end

-- part P12
section
open PySem PySem.W PyProof.Rows PySem.Spec PySem.Calls
set_option maxRecDepth 100000
set_option maxHeartbeats 8000000
namespace Mine88
/-- how a step walks from a node: back along the table's values, till a node has the child c -/
inductive Walk (T : Tab) (c : Nat) : Nat → Option (List Nat) → List Nat → Prop
  | none {n} : Walk T c n none []
  | hit {n} {q : List Nat} {v : PySem.Str} : q.all isLetter = true → q.length ≤ 4 → getT T (q ++ [c]) = some v → Walk T c n (some q) (q ++ [c])
  | fall0 {n} {q : List Nat} : q.all isLetter = true → q.length ≤ 4 → getT T (q ++ [c]) = none → getT T q = none → Walk T c (n + 1) (some q) []
  | fall {n} {q q' r : List Nat} : q.all isLetter = true → q.length ≤ 4 → getT T (q ++ [c]) = none → getT T q = some (path q') → Walk T c n (some q') r → Walk T c (n + 1) (some q) r
theorem path_root : PySem.Str.ofString "/" = path [] := by decide +kernel
noncomputable def NodeV (a : Option (List Nat)) (v : Value) : Prop := match a with
  | none => v = .none
  | some q => ∃ t, v = .str (path q) t
theorem frr {h₀ h : Heap} {L : Addr} {m₁ m₂ : PySem.Str → Option Value} (F : Fr h₀ L h m₁) (e : ∀ z, m₁ z = m₂ z) : Fr h₀ L h m₂ := by rw [← funext e]; exact F
theorem set_rows_P12 : True := by
  k_with_none
  k_with "call builtin:issubclass" => (k_here; (with_reducible show wpAny _ _ (call (Value.builtin "issubclass") [Value.type "str", Value.ref _]) _ _ _); k_dflt (refine' issub_call ?k1 ?_; (case k1 => exact News.get (by assumption) (by k_mem)); k_whole); intro tk_z)
  k_with "truthy str" => (k_here; (with_reducible show wpAny _ _ (PySem.truthy (Value.str _ _)) _ _ _); (refine' KXt.truthy_pos (K := 1000) ?kxta ?kxtb ?kxtc ?_; (case kxta => assumption); (case kxtb => assumption); (case kxtc => exact Nat.le_of_ble_eq_true rfl)); intro _)
  k_with "call ref" => (k_here; (with_reducible show wpAny _ _ (call (Value.ref 306) [Value.str _ _, Value.str _ _] _) _ _ _); refine Stop.out ?_)
  k_with "call ref" => (k_here; (with_reducible show wpAny _ _ (call (Value.ref 306) [Value.str _ _, Value.str _ _] _) _ _ _); k_dflt (refine' site_use ?k1 ?k2 ?k3 ?k4 ?k5 (joinP _ _ _ _ _ _ _ _ ?g1 ?g2 ?g3) ?kd ?ku ?_; (case k1 => k_asm); (case k2 => k_asm); (case k3 => k_asm); (case k4 => k_asm); (case k5 => k_asm); (case g1 => with_reducible assumption); (case g2 => with_reducible assumption); (case g3 => omega);(case kd => k_room); (case ku => k_units); k_whole); intro v9_z h'_z tk9_z n9_z F'_z N'_z hP9; (obtain ⟨e9_z, t9_z, e8_z⟩ := hP9; have e7_z := Eq.symm e9_z; clear e9_z; subst e7_z; subst e8_z); (try dsimp only))
  k_with "call ref" => (k_here; (with_reducible show wpAny _ _ (call (Value.ref 118) [_, Value.str _ _] _) _ _ _); refine Stop.out ?_)
  k_with "call ref" => (k_here; (with_reducible show wpAny _ _ (call (Value.ref 118) [_, Value.str _ _] _) _ _ _); k_dflt (refine' site_use ?k1 ?k2 ?k3 ?k4 ?k5 (getN _ _ _ _ _ _ _ _ _ _ ?g1 ?g2 ?g3 ?g4) ?kd ?ku ?_; (case k1 => k_asm); (case k2 => k_asm); (case k3 => k_asm); (case k4 => k_asm); (case k5 => k_asm); (case g1 => with_reducible assumption); (case g2 => with_reducible assumption); (case g3 => (simp only [List.length_append, List.length_cons, List.length_nil] at *; omega)); (case g4 => with_reducible assumption);(case kd => k_room); (case ku => k_units); k_whole); intro v9_z h'_z tk9_z n9_z F'_z N'_z hP9; (obtain ⟨e9_z, e8_z⟩ := hP9; have e7_z := Eq.symm e9_z; clear e9_z; subst e7_z; subst e8_z); (try dsimp only))
  k_with "call ref" => (k_here; (with_reducible show wpAny _ _ (call (Value.ref 118) [_, Value.str _ _] _) _ _ _); k_dflt (refine' site_use ?k1 ?k2 ?k3 ?k4 ?k5 (getS _ _ _ _ _ _ _ _ _ _ _ ?g1 ?g2 ?g3 ?g4) ?kd ?ku ?_; (case k1 => k_asm); (case k2 => k_asm); (case k3 => k_asm); (case k4 => k_asm); (case k5 => k_asm); (case g1 => with_reducible assumption); (case g2 => with_reducible assumption); (case g3 => (simp only [List.length_append, List.length_cons, List.length_nil] at *; omega)); (case g4 => with_reducible assumption);(case kd => k_room); (case ku => k_units); k_whole); intro v9_z h'_z tk9_z n9_z F'_z N'_z hP9; (obtain ⟨e9_z, t9_z, e8_z⟩ := hP9; have e7_z := Eq.symm e9_z; clear e9_z; subst e7_z; subst e8_z); (try dsimp only))
  k_with "exec While" => (k_here; refine Stop.out ?_)
  k_with "exec While Compare" => (k_here; refine Stop.out ?_)
  k_with "exec While BoolOp" => (k_here; refine Stop.out ?_)
  trivial
theorem step_c (w : World) (dp un : Nat) (news : List (Addr × Obj)) (x dx l : Addr) (T : Tab) (c : Nat) (tc : Tok) (nv : Value) (node : Option (List Nat)) (r : List Nat) (n : Nat) (hT : TabT news x dx l T) (hc : isLetter c = true) (hn : NodeV node nv) (hw : Walk T c n node r) :
    Site w dp un 60 600 325 [.ref x, nv, .str (S [c]) tc] [] news (fun v _ n' => n' = news ∧ ∃ t, v = .str (path r) t) := by
  unfold Site
  k_fill
  intro gd cn csn csg csc csm a ccd cl outer A₀ base h₀ L m s Q E p loose mean mg mb B F X N T₀ hd hu hret
  refine hideGoal fun G9 back9 => ?_
  obtain ⟨⟨hsh, tkh, nn, vs, ep, hx1, hx2, hx3, hx4⟩, hx5, hx6⟩ := id hT
  refine back9 ?_
  clear back9 G9
  refine wpAny_call ?_
  k_dflt k_enter
  k_steps
  unfold Stop
  refine while_start (PySem.Str.ofString "node") NodeV (fun n a => Walk T c n a r) (n := n) (a := node) (v := nv) (by k_asm) (by k_asm) (by rfl) hn hw (by passes_own) ?_
  intro n₁ a₁ v₁ h₁ tk₁ hw₁ hn₁ F₁ N₁
  refine hideGoal fun G9 back9 => ?_
  cases hw₁ with
  | none =>
    have hv : v₁ = .none := hn₁
    subst hv
    refine back9 ?_
    clear back9 G9
    k_steps
    exact hret _ _ _ _ (by assumption) (by assumption) ⟨rfl, _, by rw [path_root]⟩
  | @hit _ q y g1 g2 g3 =>
    obtain ⟨t₁, rfl⟩ := hn₁
    have g4 : (q ++ [c]).all isLetter = true := by simp [g1, hc]
    refine back9 ?_
    clear back9 G9
    k_steps
    exact hret _ _ _ _ (by assumption) (by assumption) ⟨rfl, _, rfl⟩
  | @fall0 m₁ q g1 g2 g3 g4 =>
    obtain ⟨t₁, rfl⟩ := hn₁
    have g5 : (q ++ [c]).all isLetter = true := by simp [g1, hc]
    refine back9 ?_
    clear back9 G9
    k_steps
    exact ⟨m₁, none, _, _, _, Nat.lt_succ_self _, .none, rfl, rfl, by (first | assumption | (refine frr (by assumption) (fun z => ?_); (split <;> first | rfl | (simp_all; done)))), by assumption⟩
  | @fall m₁ q q' r g1 g2 g3 g4 g5 =>
    obtain ⟨t₁, rfl⟩ := hn₁
    have g6 : (q ++ [c]).all isLetter = true := by simp [g1, hc]
    refine back9 ?_
    clear back9 G9
    k_steps
    exact ⟨m₁, some q', _, _, _, Nat.lt_succ_self _, g5, ⟨_, rfl⟩, rfl, by (first | assumption | (refine frr (by assumption) (fun z => ?_); (split <;> first | rfl | (simp_all; done)))), by assumption⟩
end Mine88
end

-- part P12c
section
open PySem PySem.W PyProof.Rows PySem.Spec PySem.Calls PySem.Builtin.Str
namespace Mine88
theorem picks (l : List Nat) (a : Nat) : ∀ n, a + n ≤ l.length → ((List.range n).map fun k => a + k).filterMap ((l.toArray)[·]?) = (l.drop a).take n := by
  intro n h
  apply List.ext_getElem?
  intro i
  have e : ∀ m, m ≤ n → (((List.range m).map fun k => a + k).filterMap ((l.toArray)[·]?)) = (l.drop a).take m := by
    intro m
    induction m with
    | zero => intro _; simp
    | succ m ih =>
      intro hm
      rw [List.range_succ, List.map_append, List.filterMap_append, ih (by lia), List.take_add_one]
      congr 1
      have hlt : a + m < l.length := by lia
      simp [hlt]
  rw [e n (Nat.le_refl _)]
theorem slice_ab {l : List Nat} {lo hi : Option Int} {a b : Nat} (e : strSliceIndices lo hi 1 l.length = (List.range (b - a)).map fun k => a + k) (hab : a ≤ b) (hb : b ≤ l.length) : Txt.slice (S l) lo hi = S ((l.drop a).take (b - a)) := by
  have hl : (S l).length = l.length := by show l.toArray.size = _; simp
  unfold Txt.slice
  rw [hl, e, picks l a (b - a) (by lia)]
  split
  · rename_i h
    simp only [List.length_map, List.length_range, Bool.and_eq_true, beq_iff_eq] at h
    have h0 : a = 0 := by lia
    have h1 : b = l.length := by lia
    subst h0 h1
    simp
  · rfl
theorem slice_drop {l : List Nat} {k : Nat} (hk : k ≤ l.length) {j : Int} (hj : j = k) : Txt.slice (S l) (some j) none = S (l.drop k) := by
  subst hj
  rw [slice_ab (a := k) (b := l.length) ?_ hk (Nat.le_refl _)]
  · congr 2; rw [List.take_of_length_le (by simp)]
  · unfold strSliceIndices sliceRange
    simp only [show (1 : Int) > 0 by decide, if_true]
    rw [if_neg (by lia), show max 0 (min (k : Int) l.length) = (k : Int) by lia]
    have e : (if (k : Int) < l.length then ((l.length : Int) - k + 1 - 1) / 1 else 0).toNat = l.length - k := by
      split <;> (try simp only [Int.ediv_one]) <;> lia
    rw [e]
    apply List.map_congr_left
    intro i _
    lia
theorem slice_take {l : List Nat} {k : Nat} (hk : k ≤ l.length) {j : Int} (hj : j = k) : Txt.slice (S l) none (some j) = S (l.take k) := by
  subst hj
  rw [slice_ab (a := 0) (b := k) ?_ (Nat.zero_le _) hk]
  · simp
  · have h2 : ¬ ((k : Int) < 0) := by lia
    have e1 : max (0 : Int) (min (k : Int) (l.length : Int)) = k := by lia
    simp only [strSliceIndices, sliceRange, h2, if_false, e1, show ((1 : Int) > 0) = True from by simp, if_true]
    have e : (if (0 : Int) < k then ((k : Int) - 0 + 1 - 1) / 1 else 0).toNat = k - 0 := by
      split <;> (try simp only [Int.ediv_one]) <;> lia
    rw [e]
    apply List.map_congr_left
    intro i _
    lia
theorem slash_S : (PySem.Str.ofString "/" : PySem.Str) = S [47] := by decide +kernel
theorem letter_ne {c : Nat} (hc : isLetter c = true) : c ≠ 47 := by
  intro e
  subst e
  exact absurd hc (by decide)
/-- the last '/' of a text that ends with '/' and another sign -/
theorem rfind_last {l : List Nat} {c : Nat} (hc : c ≠ 47) : Txt.rfind (S (l ++ [47, c])) (PySem.Str.ofString "/") = (l.length : Int) := by
  rw [slash_S]
  have hn : (S (l ++ [47, c])).length = l.length + 2 := by show (l ++ [47, c]).toArray.size = _; simp
  have hx : ∀ i, PySem.Builtin.Str.subAt (S (l ++ [47, c])) (S [47]) i = true → (l ++ [47, c])[i]? = some 47 := by
    intro i h
    have h1 : (l ++ [47, c]).toArray.extract i (i + 1) = [47].toArray := beq_iff_eq.mp h
    have h2 := congrArg (fun a => a.toList.head?) h1
    simpa [List.head?_take] using h2
  have h0 : PySem.Builtin.Str.subAt (S (l ++ [47, c])) (S [47]) l.length = true := by
    show ((l ++ [47, c]).toArray.extract l.length (l.length + 1) == [47].toArray) = true
    rw [beq_iff_eq]
    apply Array.toList_inj.mp
    simp
  unfold Txt.rfind
  rcases PySem.StrLaws.last_spec (S (l ++ [47, c])) (S [47]) with ⟨_, h2⟩ | ⟨i, h1, ha, h3⟩
  · exact absurd ⟨by rw [hn]; exact Nat.le_succ _, h0⟩ (h2 l.length)
  · rw [h1]
    have hlt : i + 1 ≤ l.length + 2 := by rw [← hn]; exact ha.1
    rcases Nat.lt_trichotomy i l.length with h | h | h
    · exact absurd ⟨by rw [hn]; exact Nat.le_succ _, h0⟩ (h3 l.length h)
    · subst h; rfl
    · have e : i = l.length + 1 := Nat.le_antisymm (Nat.le_of_succ_le_succ hlt) h
      subst e
      have := hx _ ha.2
      rw [List.getElem?_append_right (Nat.le_succ _)] at this
      simp at this
      exact absurd this hc
end Mine88
end

-- part P13
section
open PySem PySem.W PyProof.Rows PySem.Spec PySem.Calls
set_option maxRecDepth 100000
set_option maxHeartbeats 8000000
namespace Mine88
noncomputable def tup2 (a b : Value) (e : Nat) : Obj := { cls := .type "tuple", data := .seq #[a, b] e }
noncomputable def splitR (x : PySem.Str) : PySem.Str × PySem.Str :=
  (if (((Txt.slice x none (some (Txt.rfind x (PySem.Str.ofString "/") + 1))).length : Int) ≠ 0 ∧ (Txt.slice x none (some (Txt.rfind x (PySem.Str.ofString "/") + 1)) != Txt.mul (PySem.Str.ofString "/") ((Txt.slice x none (some (Txt.rfind x (PySem.Str.ofString "/") + 1))).length : Int)) = true)
    then Txt.rstripChars (Txt.slice x none (some (Txt.rfind x (PySem.Str.ofString "/") + 1))) (PySem.Str.ofString "/") else Txt.slice x none (some (Txt.rfind x (PySem.Str.ofString "/") + 1)),
   Txt.slice x (some (Txt.rfind x (PySem.Str.ofString "/") + 1)) none)
theorem skip2 {α : Type} {a b p : α} {news : List α} (h : p ∈ a :: news) : p ∈ a :: b :: news := by
  rcases List.mem_cons.mp h with rfl | h
  · exact List.mem_cons_self ..
  · exact List.mem_cons_of_mem _ (List.mem_cons_of_mem _ h)
theorem set_rows_P13 : True := by
  k_with_none
  k_with "call builtin:issubclass" => (k_here; (with_reducible show wpAny _ _ (call (Value.builtin "issubclass") [Value.type "str", Value.ref _]) _ _ _); k_dflt (refine' issub_call ?k1 ?_; (case k1 => exact News.get (by assumption) (by k_mem)); k_whole); intro tk_z)
  k_with "call ref" => (k_here; (with_reducible show wpAny _ _ (call (Value.ref 299) [Value.str _ _] _) _ _ _); refine Stop.out ?_)
  k_with "call ref" => (k_here; (with_reducible show wpAny _ _ (call (Value.ref 299) [Value.str _ _] _) _ _ _); k_dflt (refine' site_use ?k1 ?k2 ?k3 ?k4 ?k5 (get_sep_c _ _ _ _ _ _) ?kd ?ku ?_; (case k1 => k_asm); (case k2 => k_asm); (case k3 => k_asm); (case k4 => k_asm); (case k5 => k_asm); (case kd => k_room); (case ku => k_units); k_whole); intro v9_z h'_z tk9_z n9_z F'_z N'_z hP9; (obtain ⟨e9_z, t9_z, e8_z⟩ := hP9; have e7_z := Eq.symm e9_z; clear e9_z; subst e7_z; subst e8_z); (try dsimp only))
  k_with "call ref" => (k_here; (with_reducible show wpAny _ _ (call (Value.ref 285) [Value.str _ _] _) _ _ _); refine Stop.out ?_)
  k_with "call ref" => (k_here; (with_reducible show wpAny _ _ (call (Value.ref 285) [Value.str _ _] _) _ _ _); k_dflt (refine' site_use ?k1 ?k2 ?k3 ?k4 ?k5 (fspath_c _ _ _ _ _ _) ?kd ?ku ?_; (case k1 => k_asm); (case k2 => k_asm); (case k3 => k_asm); (case k4 => k_asm); (case k5 => k_asm); (case kd => k_room); (case ku => k_units); k_whole); intro v9_z h'_z tk9_z n9_z F'_z N'_z hP9; (obtain ⟨e9_z, e8_z⟩ := hP9; have e7_z := Eq.symm e9_z; clear e9_z; subst e7_z; subst e8_z); (try dsimp only))
  k_with "truthy str" => (k_here; (with_reducible show wpAny _ _ (PySem.truthy (Value.str _ _)) _ _ _); (refine' KXt.truthy_pos (K := 1000) ?kxta ?kxtb ?kxtc ?_; (case kxta => assumption); (case kxtb => assumption); (case kxtc => exact Nat.le_of_ble_eq_true rfl)); intro _)
  trivial
theorem split_c (w : World) (dp un : Nat) (news : List (Addr × Obj)) (x : PySem.Str) (tx : Tok) (h1 : 1 ≤ x.length) (h2 : x.length ≤ 1000) :
    Site w dp un 20 200 313 [.str x tx] [] news (fun v _ n' => ∃ D ta tb e, v = .ref D ∧ n' = (D, tup2 (.str (splitR x).1 ta) (.str (splitR x).2 tb) e) :: news) := by
  unfold Site
  k_fill
  intro gd cn csn csg csc csm a ccd cl outer A₀ base h₀ L m s Q E p loose mean mg mb B F X N T₀ hd hu hret
  refine wpAny_call ?_
  k_dflt k_enter
  k_steps
  · (rename News h₀ L _ _ => KN); exact hret _ _ _ _ (by assumption) (cb_drop KN (fun p hp => skip2 hp)) ⟨_, _, _, _, rfl, by unfold splitR tup2; rw [if_pos ⟨by assumption, by assumption⟩]⟩
  · (rename News h₀ L _ _ => KN); exact hret _ _ _ _ (by assumption) (cb_drop KN (fun p hp => skip2 hp)) ⟨_, _, _, _, rfl, by unfold splitR tup2; rw [if_neg (by rintro ⟨_, z⟩; rename (_ = false) => z2; rw [z2] at z; exact absurd z (by decide))]⟩
  · (rename News h₀ L _ _ => KN); exact hret _ _ _ _ (by assumption) (cb_drop KN (fun p hp => skip2 hp)) ⟨_, _, _, _, rfl, by unfold splitR tup2; rw [if_neg (by rintro ⟨z, _⟩; exact z (by assumption))]⟩
/-- the head of a path, as the code trims it -/
noncomputable def headR (h : PySem.Str) : PySem.Str := if ((h.length : Int) ≠ 0 ∧ (h != Txt.mul (PySem.Str.ofString "/") (h.length : Int)) = true) then Txt.rstripChars h (PySem.Str.ofString "/") else h
theorem heads3 : ((List.range 4).all fun k => (wordsOf k).all fun q => headR (S (q.flatMap (fun c => [47, c]) ++ [47])) == path q) = true := by decide +kernel
theorem split_word {q : List Nat} {c : Nat} (hq : q.all isLetter = true) (hc : isLetter c = true) (hl : q.length ≤ 3) : splitR (path (q ++ [c])) = (path q, S [c]) := by
  have hp : path (q ++ [c]) = S (q.flatMap (fun c => [47, c]) ++ [47, c]) := by
    unfold path pathL
    rw [if_neg (by simp), List.flatMap_append]
    rfl
  have hh := words_all (P := fun q => headR (S (q.flatMap (fun c => [47, c]) ++ [47])) == path q) heads3 hq hl
  rw [hp]
  generalize q.flatMap (fun c => [47, c]) = l at hh
  show (headR (Txt.slice (S (l ++ [47, c])) none (some (Txt.rfind (S (l ++ [47, c])) (PySem.Str.ofString "/") + 1))), Txt.slice (S (l ++ [47, c])) (some (Txt.rfind (S (l ++ [47, c])) (PySem.Str.ofString "/") + 1)) none) = _
  rw [rfind_last (letter_ne hc), slice_take (j := (l.length : Int) + 1) (k := l.length + 1) (by simp) (by omega), slice_drop (j := (l.length : Int) + 1) (k := l.length + 1) (by simp) (by omega)]
  have e1 : (l ++ [47, c]).take (l.length + 1) = l ++ [47] := by rw [List.take_length_add_append]; rfl
  have e2 : (l ++ [47, c]).drop (l.length + 1) = [c] := by rw [List.drop_length_add_append]; rfl
  rw [e1, e2, beq_iff_eq.mp hh]
theorem splitP (w : World) (dp un : Nat) (news : List (Addr × Obj)) (q : List Nat) (c : Nat) (tx : Tok) (hq : q.all isLetter = true) (hc : isLetter c = true) (hl : q.length ≤ 3) :
    Site w dp un 20 200 313 [.str (path (q ++ [c])) tx] [] news (fun v _ n' => ∃ D ta tb e, v = .ref D ∧ n' = (D, tup2 (.str (path q) ta) (.str (S [c]) tb) e) :: news) := by
  have e := split_word hq hc hl
  have h1 : 1 ≤ (path (q ++ [c])).length := by
    show 1 ≤ (pathL (q ++ [c])).toArray.size
    unfold pathL
    rw [if_neg (by simp)]
    cases q <;> simp
  refine (split_c w dp un news _ tx h1 (path_size (by simp; lia))).imp ?_
  rintro v h' n' ⟨D, ta, tb, e', rfl, rfl⟩
  exact ⟨D, ta, tb, e', rfl, by rw [e]⟩
end Mine88
end

-- part P14
section
open PySem PySem.W PyProof.Rows PySem.Spec PySem.Calls
set_option maxRecDepth 100000
set_option maxHeartbeats 8000000
namespace Mine88
theorem Site.impN {w : World} {dp un d u : Nat} {f : Addr} {vs : List Value} {kw : List (PySem.Str × Value)} {news : List (Addr × Obj)} {P P' : (Value → Heap → List (Addr × Obj) → Prop)} (C : Site w dp un d u f vs kw news P) (h : ∀ h₀ L h, News h₀ L h news → ∀ v h' n', P v h' n' → P' v h' n') : Site w dp un d u f vs kw news P' :=
  fun _ _ _ _ _ _ _ _ _ _ _ _ _ _ _ _ _ _ _ _ _ _ _ B F X N T hd hu ret => C _ _ _ _ _ _ _ _ _ _ _ _ _ _ _ _ _ _ _ _ _ _ _ B F X N T hd hu fun v h' tk' n' F' N' p => ret v h' tk' n' F' N' (h _ _ _ N _ _ _ p)
noncomputable def setTab (T : Tab) (p : List Nat) (v : PySem.Str) : Tab := if (getT T p).isNone then T ++ [(p, v)] else T
noncomputable def setVal (T : Tab) (p : List Nat) (v : PySem.Str) : PySem.Str := (getT T p).getD v
noncomputable def delTab (T : Tab) (p : List Nat) : Tab := T.filter fun kv => !(kv.1.map lowC == p.map lowC)
noncomputable def putTab (T : Tab) (p : List Nat) (v : PySem.Str) : Tab := delTab T p ++ [(p, v)]
noncomputable def KeepBut (l : Addr) (news n' : List (Addr × Obj)) : Prop := ∀ p ∈ news, p.1 ≠ l → p ∈ n'
theorem keep_set {l D : Addr} {o o' : Obj} {news : List (Addr × Obj)} : KeepBut l news (setAt l o ((D, o') :: news)) := fun p hp hne => mem_setAt_of (List.mem_cons_of_mem _ hp) hne
theorem news_ne {h₀ h : Heap} {L D l : Addr} {o o' : Obj} {news : List (Addr × Obj)} (hlt : ∀ p ∈ news, p.1 < D) (hl : (l, o) ∈ news) : l ≠ D := Nat.ne_of_lt (hlt _ hl)
/-- the ledger after the list of a table has got a new last row -/
theorem TabT.grown {h₀ h : Heap} {L x dx l D : Addr} {T T' : Tab} {news : List (Addr × Obj)} {vs' : List Value} {e e2 : Nat} {p : List Nat} {value : PySem.Str} {tn tv : Tok} (N : News h₀ L h news) (hT : TabT news x dx l T) (hlt : ∀ p ∈ news, p.1 < D)
    (hr : RowsAre news vs' (rowsT T')) (hlen : (T' ++ [(p, value)]).length ≤ 100) (hk : ∀ kv ∈ T' ++ [(p, value)], kv.1.all isLetter = true ∧ kv.1.length ≤ 10) :
    TabT (setAt l (listO (vs' ++ [.ref D]) e) ((D, { cls := .type "tuple", data := .seq #[.str (path p) tn, .str value tv] e2 }) :: news)) x dx l (T' ++ [(p, value)]) := by
  obtain ⟨⟨hsh, tkh, nn, vs, ep, h1, h2, h3, h4⟩, h5, h6⟩ := hT
  have hD : l ≠ D := Nat.ne_of_lt (hlt _ h3)
  have n1 : x ≠ l := apart_of N h1 h3 (by intro e; cases e)
  have n2 : dx ≠ l := apart_of N h2 h3 (by intro e; exact absurd (Value.type.inj e) (by decide))
  refine ⟨⟨hsh, tkh, nn, _, e, mem_setAt_of (List.mem_cons_of_mem _ h1) n1, mem_setAt_of (List.mem_cons_of_mem _ h2) n2, mem_setAt_self (o₀ := listO vs ep) (List.mem_cons_of_mem _ h3), ?_⟩, hlen, hk⟩
  have hr' : RowsAre (setAt l (listO (vs' ++ [.ref D]) e) ((D, { cls := .type "tuple", data := .seq #[.str (path p) tn, .str value tv] e2 }) :: news)) vs' (rowsT T') :=
    (hr.set (o := listO (vs' ++ [.ref D]) e) N h3 rfl).mono fun q hq => by unfold setAt at hq ⊢; exact List.mem_cons_of_mem _ hq
  have e0 : rowsT (T' ++ [(p, value)]) = rowsT T' ++ [(path p, value)] := by simp [rowsT]
  rw [e0]
  exact hr'.snoc ⟨D, tn, tv, e2, rfl, mem_setAt_of (List.mem_cons_self ..) (Ne.symm hD)⟩
theorem value_letters {vl : List Nat} (h : vl.all isSign = true) (hl : vl.length ≤ 1000) : reFails codeV (S vl) = true := cleanV h hl
theorem setdefP (w : World) (dp un : Nat) (news : List (Addr × Obj)) (x dx l : Addr) (T : Tab) (p vl : List Nat) (tn tv : Tok) (hT : TabT news x dx l T) (hp : p.all isLetter = true) (hl : p.length ≤ 10) (hv : vl.all isSign = true) (hvl : vl.length ≤ 1000) (hlen : T.length < 100) :
    Site w dp un 60 600 161 [.ref x, .str (path p) tn, .str (S vl) tv] [] news (fun v _ n' => (∃ t, v = .str (setVal T p (S vl)) t) ∧ TabT n' x dx l (setTab T p (S vl)) ∧ KeepBut l news n') := by
  obtain ⟨⟨hsh, tkh, nn, vs, ep, h1, h2, h3, h4⟩, h5, h6⟩ := id hT
  have hc : reFails codeN (Txt.lower (path p)) = true := by rw [lower_path hp]; exact cleanN (signs_path (low_letters hp)) (pathL_size (by simpa using hl))
  have hc1 : reFails codeN (path p) = true := cleanN (signs_path hp) (pathL_size hl)
  have hlk : look (rowsT T) (Txt.lower (path p)) = getT T p := look_T (fun kv hk => (h6 kv hk).1) hp
  have hsz : vs.length ≤ 1000 := by rw [h4.length]; simp only [rowsT, List.length_map]; lia
  cases hg : getT T p with
  | none =>
    refine (setdefault_new w dp un news x dx l hsh tkh tn tv nn ep vs (rowsT T) (path p) (S vl) h1 h2 h3 h4 hT.bounds hc hc1 (cleanV hv hvl) (path_size hl) hsz (by rw [hlk]; exact hg)).impN ?_
    rintro h₀ L h N v h' n' ⟨rfl, D, e2, hlt, rfl⟩
    unfold setVal setTab
    rw [hg]
    refine ⟨⟨tv, rfl⟩, ?_, keep_set⟩
    rw [if_pos (show (none : Option PySem.Str).isNone = true from rfl)]
    refine TabT.grown N hT hlt h4 (by simp; lia) ?_
    intro kv hk
    rcases List.mem_append.mp hk with hk | hk
    · exact h6 kv hk
    · rw [List.mem_singleton.mp hk]; exact ⟨hp, hl⟩
  | some y =>
    refine (setdefault_old w dp un news x dx l hsh tkh tn tv nn ep vs (rowsT T) (path p) (S vl) y h1 h2 h3 h4 hT.bounds hc (path_size hl) (by rw [hlk]; exact hg)).impN ?_
    rintro h₀ L h N v h' n' ⟨rfl, t, rfl⟩
    unfold setVal setTab
    rw [hg]
    exact ⟨⟨t, rfl⟩, hT, fun p hp _ => hp⟩
theorem rows_del {T : Tab} (hT : ∀ kv ∈ T, kv.1.all isLetter = true) {p : List Nat} (hp : p.all isLetter = true) : (rowsT T).filter (fun kv => !(Txt.lower kv.1 == Txt.lower (path p))) = rowsT (delTab T p) := by
  unfold rowsT delTab
  rw [List.filter_map]
  congr 1
  apply List.filter_congr
  intro kv hk
  have h1 := hT kv hk
  simp only [Function.comp]
  rw [lower_path hp, lower_path h1]
  by_cases h : kv.1.map lowC = p.map lowC
  · rw [h]; simp
  · have h' : path (kv.1.map lowC) ≠ path (p.map lowC) := fun e => h (path_inj e)
    rw [beq_eq_false_iff_ne.mpr h, beq_eq_false_iff_ne.mpr h']
theorem setitemP (w : World) (dp un : Nat) (news : List (Addr × Obj)) (x dx l : Addr) (T : Tab) (p vl : List Nat) (tn tv : Tok) (hT : TabT news x dx l T) (hp : p.all isLetter = true) (hl : p.length ≤ 10) (hv : vl.all isSign = true) (hvl : vl.length ≤ 1000) (hlen : T.length < 100) :
    Site w dp un 60 600 84 [.ref x, .str (path p) tn, .str (S vl) tv] [] news (fun v _ n' => v = .none ∧ TabT n' x dx l (putTab T p (S vl)) ∧ KeepBut l news n') := by
  obtain ⟨⟨hsh, tkh, nn, vs, ep, h1, h2, h3, h4⟩, h5, h6⟩ := id hT
  have hc : reFails codeN (Txt.lower (path p)) = true := by rw [lower_path hp]; exact cleanN (signs_path (low_letters hp)) (pathL_size (by simpa using hl))
  have hc1 : reFails codeN (path p) = true := cleanN (signs_path hp) (pathL_size hl)
  have hsz : vs.length ≤ 1000 := by rw [h4.length]; simp only [rowsT, List.length_map]; lia
  refine (setitem_c w dp un news x dx l hsh tkh tn tv nn ep vs (rowsT T) (path p) (S vl) h1 h2 h3 h4 hT.bounds hsz hc hc1 (cleanV hv hvl) (path_size hl)).impN ?_
  rintro h₀ L h N v h' n' ⟨rfl, vs', e', D, e2, hlt, hr, rfl⟩
  refine ⟨rfl, ?_, keep_set⟩
  rw [rows_del (fun kv hk => (h6 kv hk).1) hp] at hr
  have hle : (delTab T p).length ≤ T.length := List.length_filter_le _ _
  refine TabT.grown N hT hlt hr (by simp; lia) ?_
  intro kv hk
  rcases List.mem_append.mp hk with hk | hk
  · exact h6 kv (List.mem_filter.mp hk).1
  · rw [List.mem_singleton.mp hk]; exact ⟨hp, hl⟩
end Mine88
end

-- part P14b
section
open PySem PySem.W PyProof.Rows PySem.Spec PySem.Calls PySem.Builtin.Str
namespace Mine88
theorem item_mid {q r : List Nat} {c : Nat} {j : Int} (hj : j = q.length) : Txt.item (S (q ++ c :: r)) j = S [c] := by
  have hl : (S (q ++ c :: r)).length = q.length + (r.length + 1) := by show (q ++ c :: r).toArray.size = _; simp
  rw [item_meets ⟨by lia, by lia⟩]
  subst hj
  show (⟨#[(q ++ c :: r).toArray.getD _ 0]⟩ : PySem.Str) = ⟨[c].toArray⟩
  congr 2
  simp
end Mine88
end

-- part P15
section
open PySem PySem.W PyProof.Rows PySem.Spec PySem.Calls
set_option maxRecDepth 100000
set_option maxHeartbeats 8000000
namespace Mine88
noncomputable abbrev Led := List (Addr × Obj)
noncomputable abbrev Fm := PySem.Str → Option Value
inductive LT (h₀ : Heap) (L : Addr) (s₁ : Shared) (I : Addr) (it : Obj) (J : Fm → Led → Prop) (s₂ : Shared) : Prop
  | mk : ∀ h' tk m' news', s₂ = { s₁ with heap := h', toks := tk } → Fr h₀ L h' m' → News h₀ L h' ((I, it) :: news') → (∀ p ∈ news', p.1 ≠ I) → J m' news' → LT h₀ L s₁ I it J s₂
/-- the end of a turn of a loop whose ledger may grow -/
noncomputable def LTurn (h₀ : Heap) (L : Addr) (s₁ : Shared) (I : Addr) (it : Obj) (J : Fm → Led → Prop) (Q : Flow → Shared → Prop) (f : Flow) (s₂ : Shared) : Prop :=
  match f with
  | .ret v => Q (.ret v) s₂
  | .brk => Q .next s₂
  | _ => LT h₀ L s₁ I it J s₂
theorem LTurn.post {h₀ : Heap} {L : Addr} {s₁ s₂ : Shared} {I : Addr} {it : Obj} {J J' : Fm → Led → Prop} {Q : Flow → Shared → Prop} {f : Flow} (h : LTurn h₀ L s₁ I it J Q f s₂) (hJ : ∀ m n, J m n → J' m n) : UnrPost h₀ L s₁ I it J' Q f s₂ := by
  cases f with
  | ret v => exact h
  | brk => exact h
  | next => obtain ⟨h', tk, m', n', e, F, N, o, j⟩ := h; exact ⟨h', tk, m', n', e, F, N, o, hJ _ _ j⟩
  | cont => obtain ⟨h', tk, m', n', e, F, N, o, j⟩ := h; exact ⟨h', tk, m', n', e, F, N, o, hJ _ _ j⟩
section
variable {prog : PySem.Program} {w : World} {A : Around} {E : Value → Shared → Prop} {s : Shared} {env : Env} {h₀ : Heap} {x : PySem.Str} {body : List Stmt} {Q : Flow → Shared → Prop}
theorem list_by {I : Addr} {lp : Addr × Obj} {m₀ : Fm} (J : Fm → List Value → Fm → Led → Prop) {vs : List Value} {n₀ : Led} (h0 : J m₀ vs m₀ n₀)
    (turn : ∀ v r m₁ n₁ it h tk, it.cls = .type "list_iterator" → J m₀ (v :: r) m₁ n₁ → Fr h₀ env.locals h (fun y => if y = x then some v else m₁ y) → News h₀ env.locals h ((I, it) :: n₁) →
      wpAny (model prog w) A (execs body env) (LTurn h₀ env.locals { s with heap := h, toks := tk } I it (fun m' n' => lp ∈ n' ∧ J m₀ r m' n') Q) E { s with heap := h, toks := tk })
    (done : ∀ m₁ n₁ h tk, J m₀ [] m₁ n₁ → Fr h₀ env.locals h m₁ → News h₀ env.locals h n₁ → Q .next { s with heap := h, toks := tk }) :
    ListRest prog w A E h₀ env x body Q s I lp vs m₀ n₀ := by
  have : ∀ vs m₁ n₁, J m₀ vs m₁ n₁ → ListRest prog w A E h₀ env x body Q s I lp vs m₁ n₁ := by
    intro vs
    induction vs with
    | nil => intro m₁ n₁ hJ; exact ListRest.zero fun h tk F N => done m₁ n₁ h tk hJ F N
    | cons v r ih =>
      intro m₁ n₁ hJ
      refine ListRest.succ fun it h tk hc F N => ?_
      exact wpAny_mono (turn v r m₁ n₁ it h tk hc hJ F N) (fun f s₂ z => z.post fun m n ⟨a, b⟩ => ⟨a, ih m n b⟩) fun _ _ e => e
  exact this _ _ _ h0
theorem range_by {I : Addr} {a : Int} {n : Nat} {m₀ : Fm} (J : Fm → Nat → Nat → Fm → Led → Prop) {n₀ : Led} (h0 : J m₀ n 0 m₀ n₀)
    (turn : ∀ k i t m₁ n₁ it h tk, it.cls = .type "range_iterator" → k + 1 + i = n → J m₀ (k + 1) i m₁ n₁ → Fr h₀ env.locals h (fun y => if y = x then some (.int (a + (i : Int)) t) else m₁ y) → News h₀ env.locals h ((I, it) :: n₁) →
      wpAny (model prog w) A (execs body env) (LTurn h₀ env.locals { s with heap := h, toks := tk } I it (J m₀ k (i + 1)) Q) E { s with heap := h, toks := tk })
    (done : ∀ m₁ n₁ h tk, J m₀ 0 n m₁ n₁ → Fr h₀ env.locals h m₁ → News h₀ env.locals h n₁ → Q .next { s with heap := h, toks := tk }) :
    RangeRest prog w A E h₀ env x body Q s I a n n 0 m₀ n₀ := by
  have : ∀ k i m₁ n₁, k + i = n → J m₀ k i m₁ n₁ → RangeRest prog w A E h₀ env x body Q s I a n k i m₁ n₁ := by
    intro k
    induction k with
    | zero => intro i m₁ n₁ hi hJ; have : i = n := by lia
              subst this; exact RangeRest.zero fun h tk F N => done m₁ n₁ h tk hJ F N
    | succ k ih =>
      intro i m₁ n₁ hi hJ
      refine RangeRest.succ fun t h tk F N => ?_
      exact wpAny_mono (turn k i t m₁ n₁ _ h tk rfl hi hJ F N) (fun f s₂ z => z.post fun m n b => ih (i + 1) m n (by lia) b) fun _ _ e => e
  exact this _ _ _ _ (by lia) h0
end
/-- the ledger without an address -/
noncomputable def off (I : Addr) (n : Led) : Led := n.filter fun p => decide (p.1 ≠ I)
theorem mem_off {I : Addr} {n : Led} {p : Addr × Obj} (h : p ∈ n) (hne : p.1 ≠ I) : p ∈ off I n := List.mem_filter.mpr ⟨h, by simpa using hne⟩
theorem off_sub {I : Addr} {n : Led} : ∀ p ∈ off I n, p ∈ n := fun p h => (List.mem_filter.mp h).1
theorem off_ne {I : Addr} {n : Led} : ∀ p ∈ off I n, p.1 ≠ I := fun p h => by simpa using (List.mem_filter.mp h).2
theorem TabT.mono {n n' : Led} {x dx l : Addr} {T : Tab} (h : TabT n x dx l T) (hs : ∀ p ∈ n, p ∈ n') : TabT n' x dx l T :=
  let ⟨⟨hsh, tkh, nn, vs, ep, h1, h2, h3, h4⟩, h5, h6⟩ := h
  ⟨⟨hsh, tkh, nn, vs, ep, hs _ h1, hs _ h2, hs _ h3, h4.mono hs⟩, h5, h6⟩
theorem RowsAre.off {h₀ h : Heap} {L I : Addr} {it : Obj} {n : Led} {vs tab} (N : News h₀ L h n) (hI : (I, it) ∈ n) (hc : it.cls ≠ .type "tuple") (r : RowsAre n vs tab) : RowsAre (off I n) vs tab := by
  induction r with
  | nil => exact .nil
  | cons row _ ih =>
    obtain ⟨a, tk, tv, ep, e, hm⟩ := row
    exact .cons ⟨a, tk, tv, ep, e, mem_off hm (apart_of N hm hI (Ne.symm hc))⟩ ih
theorem TabT.off {h₀ h : Heap} {L I : Addr} {it : Obj} {n : Led} {x dx l : Addr} {T : Tab} (N : News h₀ L h n) (hI : (I, it) ∈ n) (h1 : it.cls ≠ .type "tuple") (h2 : it.cls ≠ .type "list") (h3 : it.cls ≠ .ref 171) (h4 : it.cls ≠ .type "dict") (hT : TabT n x dx l T) : TabT (off I n) x dx l T := by
  obtain ⟨⟨hsh, tkh, nn, vs, ep, g1, g2, g3, g4⟩, g5, g6⟩ := hT
  exact ⟨⟨hsh, tkh, nn, vs, ep, mem_off g1 (apart_of N g1 hI (Ne.symm h3)), mem_off g2 (apart_of N g2 hI (Ne.symm h4)), mem_off g3 (apart_of N g3 hI (Ne.symm h2)), g4.off N hI h1⟩, g5, g6⟩
theorem TabT.setAt {h₀ h : Heap} {L tl : Addr} {o o₀ : Obj} {n : Led} {x dx l : Addr} {T : Tab} (N : News h₀ L h n) (htl : (tl, o₀) ∈ n) (hc : o₀.cls = .type "list") (hne : tl ≠ l) (hT : TabT n x dx l T) : TabT (setAt tl o n) x dx l T := by
  obtain ⟨⟨hsh, tkh, nn, vs, ep, g1, g2, g3, g4⟩, g5, g6⟩ := hT
  exact ⟨⟨hsh, tkh, nn, vs, ep, mem_setAt_of g1 (apart_of N g1 htl (by rw [hc]; intro e; cases e)), mem_setAt_of g2 (apart_of N g2 htl (by rw [hc]; intro e; exact absurd (Value.type.inj e) (by decide))), mem_setAt_of g3 (Ne.symm hne), g4.set N htl hc⟩, g5, g6⟩
theorem TabT.lt {n : Led} {x dx l I : Addr} {T : Tab} (hT : TabT n x dx l T) (h : ∀ p ∈ n, p.1 < I) : l < I := by
  obtain ⟨⟨hsh, tkh, nn, vs, ep, g1, g2, g3, g4⟩, g5, g6⟩ := hT
  exact h _ g3
theorem strs_len {vs : List Value} {ys : List PySem.Str} (h : StrsAre vs ys) : vs.length = ys.length := by
  induction h with
  | nil => rfl
  | cons _ _ _ ih => simp [ih]
theorem news_off {h₀ h : Heap} {L I : Addr} {it : Obj} {n : Led} (N : News h₀ L h n) (hI : (I, it) ∈ n) : News h₀ L h ((I, it) :: off I n) := fun p hp => by
  rcases List.mem_cons.mp hp with rfl | hp
  · exact N _ hI
  · exact N _ (off_sub _ hp)
theorem setTab_len (T : Tab) (p : List Nat) (v : PySem.Str) : (setTab T p v).length ≤ T.length + 1 := by
  unfold setTab
  split <;> simp
theorem mem_so {I tl : Addr} {o : Obj} {n : Led} {p : Addr × Obj} (hp : p ∈ n) (h1 : p.1 ≠ tl) (h2 : p.1 ≠ I) : p ∈ off I (setAt tl o n) := mem_off (mem_setAt_of hp h1) h2
theorem rng_small {k : Nat} (hk : k ≤ 8) : Builtin.Range.small 1 ((k : Int) + 1) 1 = true := by
  exact (show ∀ k : Nat, k < 9 → Builtin.Range.small 1 ((k : Int) + 1) 1 = true by decide +kernel) k (Nat.lt_succ_of_le hk)
theorem rng_size {k : Nat} (hk : k ≤ 8) : Builtin.Range.rangeSize 1 ((k : Int) + 1) 1 = (k : Int) := by
  exact (show ∀ k : Nat, k < 9 → Builtin.Range.rangeSize 1 ((k : Int) + 1) 1 = (k : Int) by decide +kernel) k (Nat.lt_succ_of_le hk)
noncomputable def treeGo : List Nat → List Nat → Tab × List PySem.Str → Tab × List PySem.Str
  | _, [], s => s
  | p, c :: r, s => treeGo (p ++ [c]) r (setTab s.1 (p ++ [c]) (S r), s.2 ++ [setVal s.1 (p ++ [c]) (S r)])
noncomputable def treeAll (W : List (List Nat)) (s : Tab × List PySem.Str) : Tab × List PySem.Str := W.foldl (fun s w => treeGo [] w s) s
noncomputable def okWord (w : List Nat) : Bool := w.all isLetter && decide (1 ≤ w.length) && decide (w.length ≤ 4)
noncomputable abbrev nm (s : String) : PySem.Str := PySem.Str.ofString s
theorem m3_eq (m₀ : Fm) (a b c : PySem.Str) : m₀ = fun y => if y = a then m₀ a else if y = b then m₀ b else if y = c then m₀ c else m₀ y := by
  funext y
  by_cases h1 : y = a
  · rw [if_pos h1, h1]
  · rw [if_neg h1]
    by_cases h2 : y = b
    · rw [if_pos h2, h2]
    · rw [if_neg h2]
      by_cases h3 : y = c
      · rw [if_pos h3, h3]
      · rw [if_neg h3]
/-- the tree's loop over the words: what is left of them yields R -/
inductive TreeJX (news : Led) (x dx l tl wa : Addr) (vs : List Value) (we : Nat) (R : Tab × List PySem.Str) (m₀ : Fm) (r : List Value) (m : Fm) (n : Led) : Prop
  | mk : ∀ Wr T told tvs e u1 u2 u3, StrsAre r (Wr.map S) → (∀ w ∈ Wr, okWord w = true) → TabT n x dx l T → (tl, listO tvs e) ∈ n → StrsAre tvs told → T.length + 4 * Wr.length ≤ 40 → told.length + 4 * Wr.length ≤ 40 → treeAll Wr (T, told) = R → (m = fun y => if y = nm "size" then u1 else if y = nm "node" then u2 else if y = nm "word" then u3 else m₀ y) → TreeJX news x dx l tl wa vs we R m₀ r m n
structure TreeJ (news : Led) (x dx l tl wa : Addr) (vs : List Value) (we : Nat) (R : Tab × List PySem.Str) (m₀ : Fm) (r : List Value) (m : Fm) (n : Led) : Prop where
  ex : TreeJX news x dx l tl wa vs we R m₀ r m n
  wl : (wa, listO vs we) ∈ n
  keep : ∀ p ∈ news, p ∈ n
  ne : tl ≠ l ∧ wa ≠ l ∧ wa ≠ tl
/-- the loop within a word -/
inductive TreeKX (news : Led) (x dx l tl wa I : Addr) (it : Obj) (vs : List Value) (we b : Nat) (w₁ : List Nat) (R : Tab × List PySem.Str) (m₀ : Fm) (k i : Nat) (m : Fm) (n : Led) : Prop
  | mk : ∀ q r T told tvs e u1 t, w₁ = q ++ r → q.all isLetter = true → r.all isLetter = true → q.length + r.length ≤ 4 → q.length = i → r.length = k → TabT n x dx l T → (tl, listO tvs e) ∈ n → StrsAre tvs told → T.length + r.length + 4 * b ≤ 40 → told.length + r.length + 4 * b ≤ 40 → treeGo q r (T, told) = R → (m = fun y => if y = nm "size" then u1 else if y = nm "node" then some (.str (path q) t) else m₀ y) → TreeKX news x dx l tl wa I it vs we b w₁ R m₀ k i m n
structure TreeK (news : Led) (x dx l tl wa I : Addr) (it : Obj) (vs : List Value) (we b : Nat) (w₁ : List Nat) (R : Tab × List PySem.Str) (m₀ : Fm) (k i : Nat) (m : Fm) (n : Led) : Prop where
  ex : TreeKX news x dx l tl wa I it vs we b w₁ R m₀ k i m n
  wl : (wa, listO vs we) ∈ n
  keep : ∀ p ∈ news, p ∈ n
  itm : (I, it) ∈ n
theorem m2_eq {m₀ : Fm} {a b : PySem.Str} {u : Option Value} (h : m₀ b = u) : m₀ = fun y => if y = a then m₀ a else if y = b then u else m₀ y := by
  funext y
  by_cases h1 : y = a
  · rw [if_pos h1, h1]
  · rw [if_neg h1]
    by_cases h2 : y = b
    · rw [if_pos h2, h2, h]
    · rw [if_neg h2]
end Mine88
end

-- part P25
section
open PySem PySem.W PyProof.Rows PySem.Spec PySem.Calls
set_option maxRecDepth 100000
set_option maxHeartbeats 8000000
namespace Mine88
theorem tr_slot : Slot "bytes" "translate" "bytes.translate" :=
  .of (owner := "bytes") (n := "translate") (by rw [typeLookup_type, builtinLookup_eq_fast]; kernel_rfl) (by decide +kernel) (by decide +kernel) (by decide +kernel)
    (by first | exact .inl (by decide +kernel) | exact .inr (by decide +kernel)) (by rw [isSubtype_type]; kernel_rfl)
theorem tr_entry : entryFor table "bytes.translate" = some Builtin.«bytes.translate» := entryFor_of_tree (by kernel_rfl)
theorem tr_type : typeOf (.builtin "bytes.translate") = pure (.type "method_descriptor") := by show builtinType _ = _; rw [builtinType_eq_fast]; kernel_rfl
theorem tr_args (a b : Value) : argsOk "bytes.translate" ⟨[a, b], []⟩ := by unfold argsOk; kernel_rfl
noncomputable def trB (tbl b : Array UInt8) : Array UInt8 := b.map fun c => tbl.getD c.toNat c
section
variable {prog : PySem.Program} {w : World} {A : Around} {E : Value → Shared → Prop} {s : Shared} {b tbl : Array UInt8} {t u : Tok}
theorem tr_run {Q : Fin → Shared → Prop} (h256 : tbl.size = 256) (hb : b.size ≤ sizeLine) (hq : ∀ t' k, Q (.done (.ret (.bytes (trB tbl b) t'))) { s with toks := k }) :
    wpAny (model prog w) A (Builtin.«bytes.translate» ⟨[.bytes b t, .bytes tbl u], []⟩) Q E s := by
  have e0 : (Value.bytes tbl u == Value.none) = false := rfl
  have hf : ((b.filter (!(#[] : Array UInt8).contains ·)).map fun c => tbl.getD c.toNat c) = trB tbl b := by
    have : b.filter (!(#[] : Array UInt8).contains ·) = b := by simp
    rw [this]; rfl
  have h2 : (tbl.size != 256) = false := by rw [h256]; rfl
  repeat (any_goals (first | assumption | (refine wpAny_bind (wpAny_of_eq KBd.like_eq ?_)) | (rw [h2]) | wp_step))
  have hm : (Array.map (fun c => match some tbl with | some t => t.getD c.toNat c | none => c) (Array.filter (fun x => !(#[] : Array UInt8).contains x) b)) = trB tbl b := hf
  rw [hm]
  by_cases e : (trB tbl b == b) = true
  · rw [if_pos e]
    have e' : trB tbl b = b := beq_iff_eq.mp e
    refine wpAny_bind (wpAny_rule (wpAny_bind ?_))
    unfold Builtin.Bytes.Kind.same
    rw [if_pos (by decide)]
    refine wpAny_bind (wpAny_of_eq (a := Value.type "bytes") rfl ?_)
    rw [if_pos (by decide)]
    refine wpAny_pure (wpAny_pure ?_)
    have := hq t s.toks
    rw [e'] at this
    exact this
  · rw [if_neg e]
    exact wpAny_bind (wpAny_mkBytes (wpAny_pure (hq _ _)) (by simpa [trB] using hb))
theorem tr_call {Q : Value → Shared → Prop} (h256 : tbl.size = 256) (hb : b.size ≤ sizeLine) (hq : ∀ t' k, Q (.bytes (trB tbl b) t') { s with toks := k }) :
    wpAny (model prog w) A (call (.builtin "bytes.translate") [.bytes b t, .bytes tbl u]) Q E s :=
  call_meets tr_slot (T := "bytes") (typeIs_bytes _ _ _) tr_entry (tr_args _ _)
    (S := fun _ R s => ∀ t' k, R (.ok (.ret (.bytes (trB tbl b) t'))) { s with toks := k })
    (fun _ _ _ _ _ hs => tr_run h256 hb hs) hq
theorem tr_method {M : Model} {pl : Sem Bool} {Q : Value × List Value → Shared → Prop} (h : Q (.builtin "bytes.translate", [.bytes b t]) s) : wpAny M A (getMethod (.bytes b t) "translate" pl) Q E s := by
  with_reducible exact KBd.method_of (.bytes b t) (typeIs_bytes _ _ _) tr_slot tr_type KBd.noRef h
end
end Mine88
end

-- part P26
section
open PySem PySem.W PyProof.Rows PySem.Spec PySem.Calls
set_option maxRecDepth 100000
set_option maxHeartbeats 8000000
namespace Mine88
open Builtin Builtin._codecs
theorem call_meets_kw {prog : PySem.Program} {w : World} {A : Around} {E : Value → Shared → Prop} {s : Shared} {T : String} {name : PySem.Str} {id : String} {B : Builtin} {self : Value} {rest : List Value} {kw : List (PySem.Str × Value)} {S : PySem.Spec} {Q : Value → Shared → Prop} (slot : Slot T name id) (hT : s.TypeIs self T)
    (entry : entryFor table id = some B) (args : argsOk id ⟨self :: rest, kw⟩) (g : Meets (B ⟨self :: rest, kw⟩) S) (h : S A (wants Q E) s) :
    wpAny (model prog w) A (call (.builtin id) (self :: rest) kw) Q E s :=
  wpAny_call (codeAny_call_builtin slot.plain entry (slot.check _ _ _ _ _ _ _ _ hT args (g prog w A (wants Q E) s h)))
section
variable {b : Array UInt8} {t : Tok}
theorem ascii_run {id : String} (h : ∀ c ∈ b.toList, c.toNat < 128) (hsz : b.size ≤ sizeLine) : runDecoder id asciiDecoder none true b 0 [] = pure ((b.toList.map (·.toNat)).toArray, b.size) := by
  unfold runDecoder
  simp only [Std.Legacy.Range.forIn_eq_forIn_range', Std.Legacy.Range.size]
  generalize hf : (fun (x : Nat) (__s : Nat × Array Nat × Faults) => (_ : Sem (ForInStep (Nat × Array Nat × Faults)))) = f
  have step : ∀ x p (out : Array Nat), p < b.size → out.size ≤ sizeLine → f x (p, out, {}) = pure (ForInStep.yield (p + 1, out ++ [(b.getD p 0).toNat].toArray, {})) := by
    intro x p out hp ho
    have hc : (b.getD p 0).toNat < 128 := by
      refine h _ ?_
      rw [Array.getD_eq_getD_getElem?, Array.getElem?_eq_getElem hp, Option.getD_some]
      exact Array.getElem_mem_toList hp
    rw [← hf]
    dsimp only
    rw [if_neg (by lia), if_neg (by lia)]
    have e : asciiDecoder.find true b p = Found.text [(b.getD p 0).toNat] (p + 1) := by
      show (if (b.getD p 0).toNat < 128 then Found.char (b.getD p 0).toNat (p + 1) else _) = _
      rw [if_pos hc]; rfl
    rw [e]
  have loop : ∀ k i p (out : Array Nat), p + k = b.size → out.size = p → forIn (List.range' i k) (p, out, ({} : Faults)) f = pure (b.size, out ++ ((b.toList.drop p).map (·.toNat)).toArray, ({} : Faults)) := by
    intro k
    induction k with
    | zero =>
      intro i p out hp ho
      have : b.toList.drop p = [] := List.drop_eq_nil_of_le (by simp; lia)
      rw [this]
      simp only [List.range'_zero, List.forIn_nil]
      congr 2
      all_goals first | lia | simp
    | succ k ih =>
      intro i p out hp ho
      have hlt : p < b.size := by lia
      rw [List.range'_succ, List.forIn_cons, step _ _ _ hlt (by lia)]
      show (pure _ >>= _) = _
      rw [pure_bind]
      dsimp only
      rw [ih (i + 1) (p + 1) _ (by lia) (by simp; lia)]
      have hd : b.toList.drop p = b.getD p 0 :: b.toList.drop (p + 1) := by
        rw [List.drop_eq_getElem_cons (by simpa using hlt)]
        congr 1
        rw [Array.getD_eq_getD_getElem?, Array.getElem?_eq_getElem hlt]; simp
      rw [hd]
      simp
  have e1 : (b.size - 0 + 1 - 1) / 1 = b.size := by simp
  rw [e1, loop b.size 0 0 #[] (by lia) rfl]
  simp
theorem road_ascii {id : String} : decodeRoad id b (PySem.Str.ofString "ascii") none [] = (runDecoder id asciiDecoder none true b 0 [] >>= fun r => mkStr ⟨r.1⟩) := by kernel_rfl
theorem ascii_text {t1 t2 : Tok} {d : PySem.Str} (hb : ∀ c ∈ b.toList, c.toNat < 128) (hsz : b.size ≤ sizeLine) :
    Meets («_codecs.decode.text» ⟨[.bytes b t, .str (PySem.Str.ofString "ascii") t1, .none, .str d t2], []⟩) (fun _ R s => R (.ok (.ret (.str ⟨(b.toList.map (·.toNat)).toArray⟩ s.toks))) { s with toks := s.toks + 1 }) := by
  refine .of_wp fun prog w A R s h => ?_
  show wpAny _ _ (Bytes.bytesLike _ (.bytes b t) >>= fun r => _) _ _ s
  refine wpAny_bind (wpAny_of_eq KBd.like_eq ?_)
  refine wpAny_bind (wpAny_of_eq KBd.held_eq ?_)
  show wpAny _ _ (decodeRoad _ b (PySem.Str.ofString "ascii") none [] >>= fun v => _) _ _ s
  rw [road_ascii, ascii_run hb hsz]
  refine wpAny_bind (wpAny_bind (wpAny_pure ?_))
  exact wpAny_mkStr (wpAny_pure ⟨_, rfl, h⟩) (by show ((b.toList.map (·.toNat)).toArray).size ≤ _; simpa using hsz)
theorem asciiKw : (PySem.Str.ofString "encoding") = (PySem.Str.ofString "encoding") := rfl
theorem decode_tree {c : UInt8} {cs : List UInt8} {u : Tok} : «bytes.decode» ⟨[.bytes (c :: cs).toArray t], [(PySem.Str.ofString "encoding", .str (PySem.Str.ofString "ascii") u)]⟩ =
    (mkStr (PySem.Str.ofString "utf-8") >>= fun e0 => mkStr (PySem.Str.ofString "ascii") >>= fun e => mkStr (PySem.Str.ofString "bytes.decode") >>= fun d =>
      call (.builtin "_codecs.decode.text") [.bytes (c :: cs).toArray t, e, .none, d] >>= fun v => ret v) := by kernel_rfl
theorem meets_decode_ascii {c : UInt8} {cs : List UInt8} {u : Tok} (hb : ∀ x ∈ c :: cs, x.toNat < 128) (hsz : (c :: cs).length ≤ sizeLine) :
    Meets («bytes.decode» ⟨[.bytes (c :: cs).toArray t], [(PySem.Str.ofString "encoding", .str (PySem.Str.ofString "ascii") u)]⟩) (fun _ R s => ∀ t' k, R (.ok (.ret (.str ⟨((c :: cs).map (·.toNat)).toArray⟩ t'))) { s with toks := k }) := by
  refine .of_wp fun prog w A R s h => ?_
  rw [decode_tree]
  refine wpAny_bind (wpAny_mkStr ?_ (by decide))
  refine wpAny_bind (wpAny_mkStr ?_ (by decide))
  refine wpAny_bind (wpAny_mkStr ?_ (by decide))
  exact wpAny_bind (call_function_meets KBd.kind_text KBd.plain_text KBd.entry_text (KBd.args_text _ _ _ _) (ascii_text (b := (c :: cs).toArray) (by simpa using hb) (by simpa using hsz)) (wpAny_pure ⟨_, rfl, h _ _⟩))
theorem decode_args (a : Value) {u : Tok} : argsOk "bytes.decode" ⟨[a], [(PySem.Str.ofString "encoding", .str (PySem.Str.ofString "ascii") u)]⟩ := by unfold argsOk; kernel_rfl
theorem typeCall2 (a c : Value) : checkTypeCall "str" ⟨[a, c], []⟩ = pure () := by kernel_rfl
theorem newCall2 (a c : Value) : checkBuiltinCall "str.__new__" ⟨[.type "str", a, c], []⟩ = pure () := by kernel_rfl
theorem initArgs2 (a c d : Value) : argsOk "object.__init__" ⟨[a, c, d], []⟩ := by unfold argsOk; kernel_rfl
theorem new_tree {c : UInt8} {cs : List UInt8} {u : Tok} : «str.__new__» ⟨[.type "str", .bytes (c :: cs).toArray t, .str (PySem.Str.ofString "ascii") u], []⟩ =
    (isType (.type "str") >>= fun r1 => isSubtype (.type "str") (.type "str") >>= fun r2 => mkStr (PySem.Str.ofString "ascii") >>= fun e => isInstance (.bytes (c :: cs).toArray t) (.type "bytes") >>= fun r3 => rule "str.__new__.decode-bytes" >>= fun _ => call (.builtin "bytes.decode") [.bytes (c :: cs).toArray t] [(PySem.Str.ofString "encoding", e)] >>= fun v => ret v) := by kernel_rfl
theorem str_ascii {prog : PySem.Program} {w : World} {A : Around} {E : Value → Shared → Prop} {s : Shared} {c : UInt8} {cs : List UInt8} {u : Tok} {Q : Value → Shared → Prop} (hb : ∀ x ∈ c :: cs, x.toNat < 128) (hsz : (c :: cs).length ≤ sizeLine)
    (h : ∀ t' k, Q (.str ⟨((c :: cs).map (·.toNat)).toArray⟩ t') { s with toks := k }) : wpAny (model prog w) A (call (.type "str") [.bytes (c :: cs).toArray t, .str (PySem.Str.ofString "ascii") u]) Q E s := by
  refine callType_new (S := fun _ R s => ∀ t' k, R (.ok (.ret (.str ⟨((c :: cs).map (·.toNat)).toArray⟩ t'))) { s with toks := k }) F.called_str (by decide) (typeCall2 _ _) (newCall2 _ _) (fun obj => initArgs2 _ _ _) F.entry_str_new ?_ (fun t' k => ⟨typeIs_str _ _ _, h t' k⟩)
  refine Meets.of_wp fun prog w A R s h => ?_
  rw [new_tree]
  refine wpAny_bind (wpAny_pure ?_)
  refine wpAny_bind (wpAny_of_eq isSubtype_str_str ?_)
  refine wpAny_bind (wpAny_mkStr ?_ (by decide))
  refine wpAny_bind (wpAny_of_eq KBy.isInstance_eq ?_)
  refine wpAny_bind (wpAny_rule ?_)
  refine wpAny_bind (call_meets_kw FB.slot_bytes_decode (typeIs_bytes _ _ _) FB.entry_bytes_decode (decode_args _) (meets_decode_ascii hb hsz) fun t' k => ?_)
  exact wpAny_pure ⟨_, rfl, h _ _⟩
end
end Mine88
end

-- part P24
section
open PySem PySem.W PyProof.Rows PySem.Spec PySem.Calls
set_option maxRecDepth 100000
set_option maxHeartbeats 8000000
namespace Mine88
open PyProof.Rows.LCg
theorem bytes_by {prog : PySem.Program} {w : World} {A : Around} {E : Value → Shared → Prop} {s : Shared} {env : Env} {h₀ : Heap} {x : PySem.Str} {body : List Stmt} {Q : Flow → Shared → Prop} {I : Addr} {m₀ : Fm} (J : List Int → Fm → Led → Prop) {l : List Int} {n₀ : Led} (h0 : J l m₀ n₀)
    (turn : ∀ c r m₁ n₁ it h tk u, 0 ≤ c → c < 256 → J (c :: r) m₁ n₁ → Fr h₀ env.locals h (fun y => if y = x then some (.int c u) else m₁ y) → News h₀ env.locals h ((I, it) :: n₁) →
      wpAny (model prog w) A (execs body env) (LTurn h₀ env.locals { s with heap := h, toks := tk } I it (J r) Q) E { s with heap := h, toks := tk })
    (done : ∀ m₁ n₁ h tk, J [] m₁ n₁ → Fr h₀ env.locals h m₁ → News h₀ env.locals h n₁ → Q .next { s with heap := h, toks := tk }) :
    BytesRest prog w A E h₀ env x body Q s I l m₀ n₀ := by
  have : ∀ l m₁ n₁, J l m₁ n₁ → BytesRest prog w A E h₀ env x body Q s I l m₁ n₁ := by
    intro l
    induction l with
    | nil => intro m₁ n₁ hJ; exact BytesRest.zero fun h tk F N => done m₁ n₁ h tk hJ F N
    | cons c r ih =>
      intro m₁ n₁ hJ
      refine BytesRest.succ fun h1 h2 u it h tk F N => ?_
      exact wpAny_mono (turn c r m₁ n₁ it h tk u h1 h2 hJ F N) (fun f s₂ z => z.post fun m n b => ih m n b) fun _ _ e => e
  exact this _ _ _ h0
noncomputable def b64A : List Nat := [65,66,67,68,69,70,71,72,73,74,75,76,77,78,79,80,81,82,83,84,85,86,87,88,89,90,97,98,99,100,101,102,103,104,105,106,107,108,109,110,111,112,113,114,115,116,117,118,119,120,121,122,48,49,50,51,52,53,54,55,56,57,43,47]
noncomputable def b64U : List UInt8 := b64A.map fun n => n.toUInt8
noncomputable def b64C (i : Int) : Int := ((b64U.getD i.toNat 0).toNat : Int)
theorem b64C_in (i : Int) : 0 ≤ b64C i ∧ b64C i < 256 := by
  unfold b64C
  have := (b64U.getD i.toNat 0).toNat_lt
  lia
/-- what is written of the octets: lb bits of the last one are left, q their value -/
noncomputable def encI : Int → Int → List Int → List Int
  | _, _, [] => []
  | lb, q, c :: r => if lb = 0 then b64C (c / 4) :: encI 2 (c % 4) r else if lb = 2 then b64C (q * 16 + c / 16) :: encI 4 (c % 16) r else b64C (q * 4 + c / 64) :: b64C (c % 64) :: encI 0 0 r
theorem and_shift (a b : Nat) (h : b < 256) : (a * 256) &&& b = 0 := by
  apply Nat.eq_of_testBit_eq
  intro i
  rw [Nat.testBit_and, Nat.zero_testBit]
  by_cases hi : i < 8
  · have : (a * 256).testBit i = false := by
      rw [show a * 256 = 2 ^ 8 * a by lia, Nat.testBit_two_pow_mul]
      simp; lia
    rw [this]; rfl
  · have : b.testBit i = false := Nat.testBit_lt_two_pow (Nat.lt_of_lt_of_le h (show 2 ^ 8 ≤ 2 ^ i from Nat.pow_le_pow_right (by decide) (by lia)))
    rw [this, Bool.and_false]
theorem or_shift {lc c : Int} (h0 : 0 ≤ lc) (c0 : 0 ≤ c) (c1 : c < 256) : Builtin.bitOr (lc * 2 ^ Int.toNat 8) c = lc * 256 + c := by
  obtain ⟨a, rfl⟩ := Int.eq_ofNat_of_zero_le h0
  obtain ⟨b, rfl⟩ := Int.eq_ofNat_of_zero_le c0
  have e : Builtin.bitAnd ((a : Int) * 2 ^ Int.toNat 8) (b : Int) = 0 := by
    rw [show ((a : Int) * 2 ^ Int.toNat 8) = ((a * 256 : Nat) : Int) by rw [Int.natCast_mul]; rfl]
    unfold Builtin.bitAnd
    have d1 : decide ((0 : Int) ≤ ((a * 256 : Nat) : Int)) = true := decide_eq_true (Int.natCast_nonneg _)
    have d2 : decide ((0 : Int) ≤ (b : Int)) = true := decide_eq_true (Int.natCast_nonneg _)
    rw [d1, d2]
    show (((a * 256) &&& b : Nat) : Int) = 0
    rw [and_shift a b (by lia)]; rfl
  rw [bitOr_and, e]
  rw [show (2 : Int) ^ Int.toNat 8 = 256 from rfl]
  lia
theorem lc_new {lc c : Int} (h0 : 0 ≤ lc) (c0 : 0 ≤ c) (c1 : c < 256) : Builtin.bitAnd (Builtin.bitOr (lc * 2 ^ Int.toNat 8) c) 65535 = (lc * 256 + c) % 65536 := by rw [or_shift h0 c0 c1, bitAnd_m16]
theorem idx_of {x k : Int} (hk : 0 ≤ k) : Builtin.bitAnd (x.fdiv k) 63 = x / k % 64 := by rw [bitAnd_m6, Int.fdiv_eq_ediv_of_nonneg _ hk]
theorem enc_a {lc c : Int} (h0 : 0 ≤ lc) (c0 : 0 ≤ c) (c1 : c < 256) : Builtin.bitAnd ((Builtin.bitAnd (Builtin.bitOr (lc * 2 ^ Int.toNat 8) c) 65535).fdiv (2 ^ (0 + 8 - 6 : Int).toNat)) 63 = c / 4 := by
  rw [lc_new h0 c0 c1, show (2 : Int) ^ (0 + 8 - 6 : Int).toNat = 4 from rfl, idx_of (by decide)]; lia
theorem enc_b {lc c : Int} (h0 : 0 ≤ lc) (c0 : 0 ≤ c) (c1 : c < 256) : Builtin.bitAnd ((Builtin.bitAnd (Builtin.bitOr (lc * 2 ^ Int.toNat 8) c) 65535).fdiv (2 ^ (2 + 8 - 6 : Int).toNat)) 63 = lc % 4 * 16 + c / 16 := by
  rw [lc_new h0 c0 c1, show (2 : Int) ^ (2 + 8 - 6 : Int).toNat = 16 from rfl, idx_of (by decide)]; omega
theorem enc_c1 {lc c : Int} (h0 : 0 ≤ lc) (c0 : 0 ≤ c) (c1 : c < 256) : Builtin.bitAnd ((Builtin.bitAnd (Builtin.bitOr (lc * 2 ^ Int.toNat 8) c) 65535).fdiv (2 ^ (4 + 8 - 6 : Int).toNat)) 63 = lc % 16 * 4 + c / 64 := by
  rw [lc_new h0 c0 c1, show (2 : Int) ^ (4 + 8 - 6 : Int).toNat = 64 from rfl, idx_of (by decide)]; omega
theorem enc_c2 {lc c : Int} (h0 : 0 ≤ lc) (c0 : 0 ≤ c) (c1 : c < 256) : Builtin.bitAnd ((Builtin.bitAnd (Builtin.bitOr (lc * 2 ^ Int.toNat 8) c) 65535).fdiv (2 ^ (4 + 8 - 6 - 6 : Int).toNat)) 63 = c % 64 := by
  rw [lc_new h0 c0 c1, show (2 : Int) ^ (4 + 8 - 6 - 6 : Int).toNat = 1 from rfl, idx_of (by decide)]; lia
theorem lc_in (x : Int) : 0 ≤ Builtin.bitAnd x 65535 ∧ Builtin.bitAnd x 65535 ≤ 65535 := bitAnd_range x (by decide)
theorem ints_snoc {vs : List Value} {ns : List Int} (h : IntsAre vs ns) (n : Int) (t : Tok) : IntsAre (vs ++ [.int n t]) (ns ++ [n]) := by
  induction h with
  | nil => exact .cons n t .nil
  | cons k u _ ih => exact .cons k u ih
theorem in_snoc {ns : List Int} (h : ∀ n ∈ ns, 0 ≤ n ∧ n < 256) (i : Int) : ∀ n ∈ ns ++ [b64C i], 0 ≤ n ∧ n < 256 := by
  intro n hn
  rcases List.mem_append.mp hn with hn | hn
  · exact h n hn
  · rw [List.mem_singleton.mp hn]; exact b64C_in i
theorem two_of {h₀ h : Heap} {L : Addr} {n : Led} {p q : Addr × Obj} (N : News h₀ L h n) (hp : p ∈ n) (hq : q ∈ n) : News h₀ L h [p, q] := fun z hz => by
  rcases List.mem_cons.mp hz with rfl | hz
  · exact N _ hp
  · rw [List.mem_singleton.mp hz]; exact N _ hq
theorem two_ex {h₀ h : Heap} {L : Addr} {n : Led} {p q : Addr × Obj} (N : News h₀ L h n) (hp : p ∈ n) (hq : q ∈ n) : ∃ n₂, News h₀ L h (p :: n₂) ∧ q ∈ n₂ := ⟨[q], two_of N hp hq, .head _⟩
noncomputable def TblOk (tbl : Array UInt8) : Prop := ∀ n, n < 256 → tbl.getD n 0 = (if n = 43 then 45 else if n = 47 then 95 else n.toUInt8)
noncomputable def outB (l : List Int) : Array UInt8 := (l.map fun n => n.toNat.toUInt8).toArray
theorem b64_item {prog : PySem.Program} {w : World} {A : Around} {E : Value → Shared → Prop} {s : Shared} {Q : Value → Shared → Prop} {value slice : PySem.Expr} {x : Int} {t ui : Tok} (h : Q (.int (b64C (Builtin.bitAnd x 63)) s.toks) { s with toks := s.toks + 1 })
    (hs : subscripted slice false (.bytes b64U.toArray t) (.int (Builtin.bitAnd x 63) ui) = operate [.bytes b64U.toArray t, .int (Builtin.bitAnd x 63) ui] (getItem (.bytes b64U.toArray t) (.int (Builtin.bitAnd x 63) ui)) := by with_unfolding_all rfl)
    (ht : ∀ r, letTemporaryGo value (.bytes b64U.toArray t) r = pure () := by intro _; with_unfolding_all rfl) :
    wpAny (model prog w) A (subscriptTail value slice (.bytes b64U.toArray t) (.int (Builtin.bitAnd x 63) ui)) Q E s := by
  have hb := bitAnd_range x (y := 63) (by decide)
  refine KBy.item_N (x := b64U) (by decide) hb.1 (Int.lt_of_le_of_lt hb.2 (by decide)) h hs ht
inductive EncJX (oa : Addr) (tot : List Int) (m₀ : Fm) (r : List Int) (m : Fm) (n : Led) : Prop
  | mk : ∀ vs e ns lc lb q u1 u2 u3, (oa, listO vs e) ∈ n → IntsAre vs ns → 0 ≤ lc → lc ≤ 65535 → ((lb = 0 ∧ q = 0 ∧ r.length % 3 = 0) ∨ (lb = 2 ∧ lc % 4 = q ∧ r.length % 3 = 2) ∨ (lb = 4 ∧ lc % 16 = q ∧ r.length % 3 = 1)) → ns.length + 2 * r.length ≤ 100 → (∀ n ∈ ns, 0 ≤ n ∧ n < 256) → ns ++ encI lb q r = tot → (m = fun y => if y = nm "leftchar" then some (.int lc u1) else if y = nm "leftbits" then some (.int lb u2) else if y = nm "b" then u3 else m₀ y) → EncJX oa tot m₀ r m n
structure EncJ (oa : Addr) (tot : List Int) (m₀ : Fm) (r : List Int) (m : Fm) (n : Led) : Prop where
  ex : EncJX oa tot m₀ r m n
theorem set_rows_P24 : True := by
  k_with_none
  k_with "call builtin:issubclass" => (k_here; (with_reducible show wpAny _ _ (call (Value.builtin "issubclass") [Value.type "str", Value.ref _]) _ _ _); k_dflt (refine' issub_call ?k1 ?_; (case k1 => exact News.get (by assumption) (by k_mem)); k_whole); intro tk_z)
  k_with "SrcLP" => (k_here; refine Stop.out ?_)
  k_with "CompSrc" => (k_here; refine Stop.out ?_)
  k_with "LeaveK" => (k_here; k_dflt (refine' leaveR ?k0 ?k1 ?k2 ?_; (case k0 => assumption); (case k1 => k_asm); (case k2 => k_asm); k_whole); intro kF_z kN_z kK_z)
  k_with "call type:type" => ((with_reducible show wpAny _ _ (call _ [Value.bytes _ _]) _ _ _); refine call_type_of (Tx := "bytes") rfl (by decide +kernel) ?_)
  k_with "pyIter bytes" => (k_here; (with_reducible show wpAny _ _ (pyIter (Value.bytes _ _)) (fun it s₂ => LoopAtV _ _ _ _ _ _ _ _ _ it s₂) _ _); refine Stop.out ?_)
  k_with "call type:bytes" => (k_here; refine Stop.out ?_)
  k_with "call builtin:list.append" => (k_here; (with_reducible show wpAny _ _ (call (Value.builtin _) [Value.ref _, _]) _ _ _); k_dflt (refine' append_in ?k1 ?k2 ?k3 ?k4 ?_; (case k1 => k_asm); (case k2 => k_asm); (case k3 => k_mem); (case k4 => first | assumption | (simp only [List.length_append, List.length_cons, List.length_nil]; omega)); k_whole); intro h'_z F'_z N'_z)
  k_with "getMethod bytes" => (k_here; (with_reducible refine tr_method ?_))
  k_with "call builtin:bytes.translate" => (k_here; refine Stop.out ?_)
  k_with "subscriptTail Name BinOp bytes int" => (k_here; k_dflt (refine b64_item ?_))
  k_with "subscriptTail" => (k_here; (with_reducible show wpAny _ _ (subscriptTail _ _ (Value.bytes _ _) (Value.int (Builtin.bitAnd _ _) _)) _ _ _); k_dflt (refine b64_item ?_))
  trivial
theorem enc (w : World) (dp un : Nat) (rest : List (Addr × Obj)) (cs : List UInt8) (t : Tok) (hcs : cs.length ≤ 30) (h3 : cs.length % 3 = 0) :
    SiteR w dp un 60 600 212 [.bytes cs.toArray t] [] [] rest (fun v n' => ∃ tbl t', TblOk tbl ∧ v = .bytes (trB tbl (outB (encI 0 0 (cs.map fun c => (c.toNat : Int))))) t') := by
  unfold SiteR
  k_fill
  intro gd cn csn csg csc csm aa ccd cl outer A₀ base h₀ L m s Q E p loose mean mg mb B F X N hR T₀ hdd hu hret
  refine wpAny_call ?_
  k_dflt (refine' code_defR hR ?k1 ?k2 ?k3 ?k4 ?k5 ?kA ?kF ?kK ?k6 ?k7 ?k8 ?k9 ?kB ?_ ?c2 ?c3 ?c4 ?c5; (case kA => exact rfl); (case kF => exact rfl); (case kK => exact rfl); (case k1 => k_asm); (case k2 => k_asm); (case k3 => k_asm); (case k4 => k_asm); (case k5 => k_asm); (case k6 => k_is); (case k7 => k_is); (case k8 => k_room); (case k9 => first | exact BindsTo.of_eq rfl | exact binds_K (by k_in) rfl (by k_is) rfl rfl rfl); (case c2 => exact rfl); (case c3 => exact rfl); (case c4 => exact rfl); (case c5 => decide); (case kB => exact locs rfl); k_whole)
  intro gR LR hR1 hg FG F₁ N₁ B₁ X₁ T₁
  (try dsimp only at *)
  k_steps
  unfold Stop
  refine iter_bytesUnr (l := cs.map fun c => (c.toNat : Int)) (by rfl) (by k_asm) (by k_asm) (KBw.ints_list _) ?_
  intro I hI
  have hoI := hI _ (.head _)
  refine bytes_by (EncJ _ (encI 0 0 (cs.map fun c => (c.toNat : Int))) _) ⟨⟨[], _, [], 0, 0, 0, _, _, _, .head _, .nil, by decide, by decide, .inl ⟨rfl, rfl, by simpa using h3⟩, by simp; lia, by simp, rfl, m3_eq _ _ _ _⟩⟩ ?turn ?done
  case turn =>
    intro c r m₁ n₁ it h tk u hc0 hc1 x9 F₂ N₂
    refine hideGoal fun G9 back9 => ?_
    obtain ⟨vs, e, ns, lc, lb, q, u1, u2, u3, hoa, his, hl0, hl1, hlb, hln, hnb, htot, rfl⟩ := x9
    dsimp only at F₂
    have hvs : vs.length ≤ 1000 := by rw [his.length]; lia
    rcases hlb with ⟨e, hq, hr3⟩ | ⟨e, hq, hr3⟩ | ⟨e, hq, hr3⟩ <;> subst e
    · refine back9 ?_
      clear back9 G9
      k_steps
      (rename News _ _ _ (setAt _ _ _) => KN)
      have hb := lc_in (Builtin.bitOr (lc * 2 ^ Int.toNat 8) c)
      refine ⟨_, _, _, off I _, rfl, frr (by assumption) (by (intro z; by_cases h1 : z = (nm "leftchar"); (focus (subst h1; rfl)); by_cases h2 : z = (nm "leftbits"); (focus (subst h2; rfl)); by_cases h3 : z = (nm "b"); (focus (subst h3; rfl)); simp only [if_neg h1, if_neg h2, if_neg h3])), news_off KN (mem_setAt_of (.head _) (Nat.ne_of_gt hoI)), off_ne,
        ⟨_, _, _, _, 2, c % 4, _, _, some (.int c u), mem_off (mem_setAt_self (.tail _ hoa)) (Nat.ne_of_lt hoI), ints_snoc his _ _, hb.1, hb.2, .inr (.inl ⟨rfl, by rw [lc_new hl0 hc0 hc1]; lia, by simp only [List.length_cons] at hr3; lia⟩), by simp only [List.length_cons] at hln; simp; lia, in_snoc hnb _, ?_, rfl⟩⟩
      rw [enc_a hl0 hc0 hc1, ← htot]
      simp [encI]
    · refine back9 ?_
      clear back9 G9
      k_steps
      (rename News _ _ _ (setAt _ _ _) => KN)
      have hb := lc_in (Builtin.bitOr (lc * 2 ^ Int.toNat 8) c)
      refine ⟨_, _, _, off I _, rfl, frr (by assumption) (by (intro z; by_cases h1 : z = (nm "leftchar"); (focus (subst h1; rfl)); by_cases h2 : z = (nm "leftbits"); (focus (subst h2; rfl)); by_cases h3 : z = (nm "b"); (focus (subst h3; rfl)); simp only [if_neg h1, if_neg h2, if_neg h3])), news_off KN (mem_setAt_of (.head _) (Nat.ne_of_gt hoI)), off_ne,
        ⟨_, _, _, _, 4, c % 16, _, _, some (.int c u), mem_off (mem_setAt_self (.tail _ hoa)) (Nat.ne_of_lt hoI), ints_snoc his _ _, hb.1, hb.2, .inr (.inr ⟨rfl, by rw [lc_new hl0 hc0 hc1]; lia, by simp only [List.length_cons] at hr3; lia⟩), by simp only [List.length_cons] at hln; simp; lia, in_snoc hnb _, ?_, rfl⟩⟩
      rw [enc_b hl0 hc0 hc1, ← htot]
      simp [encI, hq]
    · refine back9 ?_
      clear back9 G9
      k_steps
      (rename News _ _ _ (setAt _ _ _) => KN)
      refine hideGoal fun G9 back9 => ?_
      obtain ⟨n₂, KN2, hoa2⟩ := two_ex KN (mem_setAt_of (.head _) (Nat.ne_of_gt hoI)) (mem_setAt_self (.tail _ hoa))
      clear KN
      have hvs2 : vs.length ≤ 100 := by rw [his.length]; lia
      refine back9 ?_
      clear back9 G9
      k_steps
      (rename News _ _ _ (setAt _ _ _) => KN)
      have hb := lc_in (Builtin.bitOr (lc * 2 ^ Int.toNat 8) c)
      refine ⟨_, _, _, off I _, rfl, frr (by assumption) (by (intro z; by_cases h1 : z = (nm "leftchar"); (focus (subst h1; rfl)); by_cases h2 : z = (nm "leftbits"); (focus (subst h2; rfl)); by_cases h3 : z = (nm "b"); (focus (subst h3; rfl)); simp only [if_neg h1, if_neg h2, if_neg h3])), news_off KN (mem_setAt_of (.head _) (Nat.ne_of_gt hoI)), off_ne,
        ⟨_, _, _, _, 0, 0, _, _, some (.int c u), mem_off (mem_setAt_self (.tail _ hoa2)) (Nat.ne_of_lt hoI), ints_snoc (ints_snoc his _ _) _ _, hb.1, hb.2, .inl ⟨rfl, rfl, by simp only [List.length_cons] at hr3; lia⟩, by simp only [List.length_cons] at hln; simp; lia, in_snoc (in_snoc hnb _) _, ?_, rfl⟩⟩
      rw [enc_c1 hl0 hc0 hc1, enc_c2 hl0 hc0 hc1, ← htot]
      simp [encI, hq]
  case done =>
    intro m₁ n₁ h tk x9 F₂ N₂
    refine hideGoal fun G9 back9 => ?_
    obtain ⟨vs, e, ns, lc, lb, q, u1, u2, u3, hoa, his, hl0, hl1, hlb, hln, hnb, htot, rfl⟩ := x9
    dsimp only at F₂
    rcases hlb with ⟨e, hq, hr3⟩ | ⟨e, hq, hr3⟩ | ⟨e, hq, hr3⟩
    · refine back9 ?_
      clear back9 G9
      subst e
      k_steps
      unfold Stop
      k_dflt (refine' bytes_K ?F ?N ?l ?i ?r ?z ?h ?_)
      case F => k_asm
      case N => k_asm
      case l => exact ⟨_, (N₂ _ hoa).1, rfl, _, rfl⟩
      case i => exact his
      case r => exact hnb
      case z => rw [his.length, sizeLine_eq]; lia
      case h => with_unfolding_all rfl
      intro h₃ t₃ k₃ F₃ N₃ hB₃
      have hns : ns = encI 0 0 (cs.map fun c => (c.toNat : Int)) := by rw [← htot]; simp [encI]
      refine hideGoal fun G9 back9 => ?_
      subst hns
      have hz : ((encI 0 0 (cs.map fun c => (c.toNat : Int))).map fun n => n.toNat.toUInt8).toArray.size ≤ sizeLine := by rw [sizeLine_eq]; simp only [List.size_toArray, List.length_map]; lia
      refine back9 ?_
      clear back9 G9
      k_steps
      unfold Stop
      refine tr_call rfl hz ?_
      intro t5 k5
      k_steps
      exact hret _ _ _ _ (by assumption) (by assumption) (by assumption) ⟨_, _, by unfold TblOk; decide +kernel, rfl⟩
    · refine back9 ?_
      clear back9 G9
      simp at hr3
    · refine back9 ?_
      clear back9 G9
      simp at hr3
end Mine88
end

-- part P23
section
open PySem PySem.W PyProof.Rows PySem.Spec PySem.Calls
set_option maxRecDepth 100000
set_option maxHeartbeats 8000000
namespace Mine88
open PyProof.Rows.LCg
noncomputable def six (d : Nat) : Nat := if d = 0 then 0 else if d = 1 then 26 else if d = 2 then 1 else if d = 3 then 27 else 63
inductive DigsAre : List Value → List Nat → Prop
  | nil : DigsAre [] []
  | cons {vs ds} (d : Nat) (t : Tok) : d ≤ 4 → DigsAre vs ds → DigsAre (.int (d : Int) t :: vs) (d :: ds)
inductive SixAre : List Value → List Nat → Prop
  | nil : SixAre [] []
  | cons {vs ds} (d : Nat) (t : Tok) : SixAre vs ds → SixAre (.int (six d : Int) t :: vs) (d :: ds)
theorem SixAre.snoc {vs ds} (h : SixAre vs ds) (d : Nat) (t : Tok) : SixAre (vs ++ [.int (six d : Int) t]) (ds ++ [d]) := by
  induction h with
  | nil => exact .cons d t .nil
  | cons e u _ ih => exact .cons e u ih
theorem DigsAre.le {vs ds} (h : DigsAre vs ds) : ∀ d ∈ ds, d ≤ 4 := by
  induction h with
  | nil => intro d h; cases h
  | cons e t he _ ih =>
    intro d hd
    rcases List.mem_cons.mp hd with rfl | hd
    · exact he
    · exact ih d hd
theorem DigsAre.length {vs ds} (h : DigsAre vs ds) : vs.length = ds.length := by
  induction h with
  | nil => rfl
  | cons _ _ _ _ ih => simp [ih]
noncomputable def signD (d : Nat) : Nat := if d = 0 then 65 else if d = 1 then 97 else if d = 2 then 66 else if d = 3 then 98 else 95
theorem enc_site (w : World) (dp un : Nat) (news : List (Addr × Obj)) (cs : List UInt8) (t : Tok) (hcs : cs.length ≤ 30) (h3 : cs.length % 3 = 0) :
    Site w dp un 60 600 212 [.bytes cs.toArray t] [] news (fun v _ n' => (∃ tbl t', TblOk tbl ∧ v = .bytes (trB tbl (outB (encI 0 0 (cs.map fun c => (c.toNat : Int))))) t') ∧ n' = news) :=
  Site.of_none fun rest => enc w dp un rest cs t hcs h3
theorem enc_group {sa sb sc sd : Nat} (ha : sa ≤ 63) (hb : sb ≤ 63) (hc : sc ≤ 63) (hd : sd ≤ 63) (r : List Int) :
    encI 0 0 (((sa : Int) * 4 + (sb : Int).fdiv 16) :: ((sb : Int).fmod 16 * 16 + (sc : Int).fdiv 4) :: ((sc : Int).fmod 4 * 64 + (sd : Int)) :: r) = b64C sa :: b64C sb :: b64C sc :: b64C sd :: encI 0 0 r := by
  simp only [Int.fdiv_eq_ediv_of_nonneg _ (by decide : (0 : Int) ≤ 16), Int.fdiv_eq_ediv_of_nonneg _ (by decide : (0 : Int) ≤ 4), Int.fmod_eq_emod_of_nonneg _ (by decide : (0 : Int) ≤ 16), Int.fmod_eq_emod_of_nonneg _ (by decide : (0 : Int) ≤ 4)]
  simp only [encI, if_true, show ((2 : Int) = 0) = False by simp, show ((4 : Int) = 0) = False by simp, show ((4 : Int) = 2) = False by simp, if_false]
  rw [show ((sa : Int) * 4 + (sb : Int) / 16) / 4 = sa by omega, show ((sa : Int) * 4 + (sb : Int) / 16) % 4 * 16 + ((sb : Int) % 16 * 16 + (sc : Int) / 4) / 16 = sb by omega,
    show ((sb : Int) % 16 * 16 + (sc : Int) / 4) % 16 * 4 + ((sc : Int) % 4 * 64 + (sd : Int)) / 64 = sc by omega, show ((sc : Int) % 4 * 64 + (sd : Int)) % 64 = sd by omega]
theorem three_in {sa sb sc sd : Nat} (ha : sa ≤ 63) (hb : sb ≤ 63) (hc : sc ≤ 63) (hd : sd ≤ 63) {r : List Int} (h : ∀ n ∈ r, 0 ≤ n ∧ n < 256) :
    ∀ n ∈ ((sa : Int) * 4 + (sb : Int).fdiv 16) :: ((sb : Int).fmod 16 * 16 + (sc : Int).fdiv 4) :: ((sc : Int).fmod 4 * 64 + (sd : Int)) :: r, 0 ≤ n ∧ n < 256 := by
  simp only [List.forall_mem_cons, Int.fdiv_eq_ediv_of_nonneg _ (by decide : (0 : Int) ≤ 16), Int.fdiv_eq_ediv_of_nonneg _ (by decide : (0 : Int) ≤ 4), Int.fmod_eq_emod_of_nonneg _ (by decide : (0 : Int) ≤ 16), Int.fmod_eq_emod_of_nonneg _ (by decide : (0 : Int) ≤ 4)]
  exact ⟨⟨by lia, by lia⟩, ⟨by lia, by lia⟩, ⟨by lia, by lia⟩, h⟩
theorem b64_six {tbl : Array UInt8} (h : TblOk tbl) {d : Nat} (hd : d ≤ 4) : tbl.getD ((b64C (six d)).toNat.toUInt8).toNat ((b64C (six d)).toNat.toUInt8) = (signD d).toUInt8 := by
  have hs : 256 ≤ tbl.size := by
    refine Nat.le_of_not_lt fun hlt => ?_
    have h1 := h 255 (by decide)
    rw [if_neg (by decide), if_neg (by decide)] at h1
    by_cases e : 255 < tbl.size
    · lia
    · rw [Array.getD_eq_getD_getElem?, Array.getElem?_eq_none (by lia)] at h1
      exact absurd h1 (by decide)
  have g : ∀ n, n < 256 → ∀ x, tbl.getD n x = (if n = 43 then 45 else if n = 47 then 95 else n.toUInt8) := fun n hn x => by
    rw [← h n hn, Array.getD_eq_getD_getElem?, Array.getD_eq_getD_getElem?, Array.getElem?_eq_getElem (by lia)]; rfl
  have : d = 0 ∨ d = 1 ∨ d = 2 ∨ d = 3 ∨ d = 4 := by lia
  rcases this with e | e | e | e | e <;> subst e <;> (rw [g _ (by decide +kernel)]; decide +kernel)
theorem sign_lt (d : Nat) : ((signD d).toUInt8).toNat < 128 ∧ ((signD d).toUInt8).toNat = signD d := by
  unfold signD
  split
  · decide
  · split
    · decide
    · split
      · decide
      · split <;> decide
theorem tr_list {tbl : Array UInt8} (h : TblOk tbl) : ∀ {ds : List Nat}, (∀ d ∈ ds, d ≤ 4) → trB tbl (outB (ds.map fun d => b64C (six d))) = (ds.map fun d => (signD d).toUInt8).toArray := by
  intro ds hds
  unfold trB outB
  rw [List.map_toArray, List.map_map, List.map_map]
  congr 1
  apply List.map_congr_left
  intro d hd
  exact b64_six h (hds d hd)
theorem sign_text (ds : List Nat) : (⟨((ds.map fun d => (signD d).toUInt8).map (·.toNat)).toArray⟩ : PySem.Str) = S (ds.map signD) := by
  congr 2
  rw [List.map_map]
  apply List.map_congr_left
  intro d _
  exact (sign_lt d).2
theorem six_lt : ∀ d, six d ≤ 63 := by intro d; unfold six; split <;> (try split) <;> (try split) <;> (try split) <;> decide
section
variable {prog : PySem.Program} {w : World} {A : Around} {E : Value → Shared → Prop} {s : Shared} {h₀ : Heap} {L : Addr} {news : List (Addr × Obj)} {value slice : PySem.Expr} {Q : Value → Shared → Prop}
theorem six_item {l : Addr} {t0 t1 t2 t3 t4 u : Tok} {d : Nat} {e : Nat} (N : News h₀ L s.heap news) (hm : (l, { cls := .type "tuple", data := .seq #[.int 0 t0, .int 26 t1, .int 1 t2, .int 27 t3, .int 63 t4] e }) ∈ news) (hd : d ≤ 4)
    (h : ∀ t, Q (.int (six d : Int) t) s) (hs : subscripted slice false (.ref l) (.int (d : Int) u) = operate [.ref l, .int (d : Int) u] (getItem (.ref l) (.int (d : Int) u)) := by with_unfolding_all rfl) :
    wpAny (model prog w) A (subscriptTail value slice (.ref l) (.int (d : Int) u)) Q E s := by
  have ht : IsTup s.heap l [.int 0 t0, .int 26 t1, .int 1 t2, .int 27 t3, .int 63 t4].toArray := News.isTup N hm
  have : d = 0 ∨ d = 1 ∨ d = 2 ∨ d = 3 ∨ d = 4 := by lia
  rcases this with rfl | rfl | rfl | rfl | rfl
  · exact item_tupleT ht (j := 0) (x := .int 0 t0) (by decide) (by decide) rfl rfl (h t0) hs
  · exact item_tupleT ht (j := 1) (x := .int 26 t1) (by decide) (by decide) rfl rfl (h t1) hs
  · exact item_tupleT ht (j := 2) (x := .int 1 t2) (by decide) (by decide) rfl rfl (h t2) hs
  · exact item_tupleT ht (j := 3) (x := .int 27 t3) (by decide) (by decide) rfl rfl (h t3) hs
  · exact item_tupleT ht (j := 4) (x := .int 63 t4) (by decide) (by decide) rfl rfl (h t4) hs
end
theorem six_un {ys : List Value} {dn : List Nat} {n : Nat} {G : Prop} (h : SixAre ys dn) (hl : dn.length = n + 1) (k : ∀ d t ys' dn', SixAre ys' dn' → dn'.length = n → dn = d :: dn' → ys = .int ((six d : Nat) : Int) t :: ys' → G) : G := by
  cases h with
  | nil => cases hl
  | cons d t h => exact k d t _ _ h (Nat.succ.inj hl) rfl rfl
theorem six_nil {ys : List Value} {dn : List Nat} {G : Prop} (h : SixAre ys dn) (hl : dn.length = 0) (k : dn = [] → ys = [] → G) : G := by
  cases h with
  | nil => exact k rfl rfl
  | cons d t h => cases hl
theorem four_of {ys : List Value} {dn : List Nat} {G : Prop} (h : SixAre ys dn) (hl : dn.length = 4) (k : ∀ (d0 d1 d2 d3 s0 s1 s2 s3 : Nat) (t0 t1 t2 t3 : Tok), dn = [d0, d1, d2, d3] → ys = [.int ((s0 : Nat) : Int) t0, .int ((s1 : Nat) : Int) t1, .int ((s2 : Nat) : Int) t2, .int ((s3 : Nat) : Int) t3] → s0 = six d0 → s1 = six d1 → s2 = six d2 → s3 = six d3 → G) : G :=
  six_un h hl fun d0 t0 y1 n1 h hl e0 f0 => six_un h hl fun d1 t1 y2 n2 h hl e1 f1 => six_un h hl fun d2 t2 y3 n3 h hl e2 f2 => six_un h hl fun d3 t3 y4 n4 h hl e3 f3 => six_nil h hl fun e4 f4 =>
  k d0 d1 d2 d3 _ _ _ _ t0 t1 t2 t3 (by rw [e0, e1, e2, e3, e4]) (by rw [f0, f1, f2, f3, f4]) rfl rfl rfl rfl
theorem set_rows_P23 : True := by
  k_with_none
  k_with "call builtin:issubclass" => (k_here; (with_reducible show wpAny _ _ (call (Value.builtin "issubclass") [Value.type "str", Value.ref _]) _ _ _); k_dflt (refine' issub_call ?k1 ?_; (case k1 => exact News.get (by assumption) (by k_mem)); k_whole); intro tk_z)
  k_with "SrcLP" => (k_here; refine Stop.out ?_)
  k_with "CompSrc" => (k_here; refine Stop.out ?_)
  k_with "LeaveK" => (k_here; k_dflt (refine' leaveR ?k0 ?k1 ?k2 ?_; (case k0 => assumption); (case k1 => k_asm); (case k2 => k_asm); k_whole); intro kF_z kN_z kK_z)
  k_with "call ref" => (k_here; (with_reducible show wpAny _ _ (call (Value.ref _) _ _) _ _ _); refine Stop.out ?_)
  k_with "call type:str" => (k_here; refine Stop.out ?_)
  k_with "subscriptTail" => (k_here; (with_reducible show wpAny _ _ (subscriptTail (PySem.Expr.Tuple _ _ _) (PySem.Expr.Name _ _) (Value.ref _) (Value.int _ _)) _ _ _); k_dflt (refine' six_item ?zN ?zl ?zd ?_ ?zs; (case zN => k_asm); (case zl => k_mem); (case zd => assumption); (case zs => with_unfolding_all rfl); k_whole); intro t9_z)
  trivial
theorem written4 (w : World) (dp un : Nat) (rest : List (Addr × Obj)) (da : Addr) (vs : List Value) (we : Nat) (ds : List Nat) (hd : DigsAre vs ds) (hl : ds.length = 4) :
    SiteR w dp un 100 900 318 [.ref da] [] [(da, listO vs we)] rest (fun v n' => (∃ t, v = .str (S (ds.map signD)) t) ∧ (da, listO vs we) ∈ n') := by
  unfold SiteR
  k_fill
  intro gd cn csn csg csc csm aa ccd cl outer A₀ base h₀ L m s Q E p loose mean mg mb B F X N hR T₀ hdd hu hret
  refine wpAny_call ?_
  k_dflt (refine' code_defR hR ?k1 ?k2 ?k3 ?k4 ?k5 ?kA ?kF ?kK ?k6 ?k7 ?k8 ?k9 ?kB ?_ ?c2 ?c3 ?c4 ?c5; (case kA => exact rfl); (case kF => exact rfl); (case kK => exact rfl); (case k1 => k_asm); (case k2 => k_asm); (case k3 => k_asm); (case k4 => k_asm); (case k5 => k_asm); (case k6 => k_is); (case k7 => k_is); (case k8 => k_room); (case k9 => first | exact BindsTo.of_eq rfl | exact binds_K (by k_in) rfl (by k_is) rfl rfl rfl); (case c2 => exact rfl); (case c3 => exact rfl); (case c4 => exact rfl); (case c5 => decide); (case kB => exact locs rfl); k_whole)
  intro gR LR hR1 hg FG F₁ N₁ B₁ X₁ T₁
  (try dsimp only at *)
  k_steps
  unfold Stop
  have hvl : vs.length ≤ 1000 := by rw [hd.length, hl]; decide
  refine compU_src (fun r ys => ∃ dr dn, DigsAre r dr ∧ SixAre ys dn ∧ dn ++ dr = ds) (by rfl) (by k_asm) (by k_asm) (by k_mem) hvl ⟨ds, [], hd, .nil, rfl⟩ ?_ ?_
  · intro v r ys I oI C oC D m₂ hX tkX E' hJ hC hx FX NX off ne
    refine hideGoal fun G9 back9 => ?_
    obtain ⟨dr, dn, hr', hd', he⟩ := hJ
    cases hr' with
    | @cons _ dr d t hd4 hr'' =>
      refine back9 ?_
      clear back9 G9
      k_steps
      exact PEnd.intro (by k_asm) (by assumption) (fun _ h => .tail _ h) ⟨dr, dn ++ [d], hr'', hd'.snoc d _, by rw [← he]; simp⟩
  · intro g ys hJ
    refine hideGoal fun G9 back9 => ?_
    obtain ⟨dr, dn, hr', hd', he⟩ := hJ
    cases hr'
    rw [List.append_nil] at he
    subst he
    have hle : ∀ d ∈ dn, d ≤ 4 := hd.le
    refine four_of hd' hl fun a b c d sa sb sc sd ta tb tc td edn eys ea eb ec ed => ?_
    subst edn
    subst eys
    have ba : sa ≤ 63 := by rw [ea]; exact six_lt a
    have bb : sb ≤ 63 := by rw [eb]; exact six_lt b
    have bc : sc ≤ 63 := by rw [ec]; exact six_lt c
    have bd : sd ≤ 63 := by rw [ed]; exact six_lt d
    have hgr := fun r => enc_group ba bb bc bd r
    have htr : ∀ tbl, TblOk tbl → trB tbl (outB [b64C (six a), b64C (six b), b64C (six c), b64C (six d)]) = _ := fun tbl h => tr_list h hle
    simp only [← ea, ← eb, ← ec, ← ed] at htr
    have hen : encI 0 0 (((sa : Int) * 4 + (sb : Int).fdiv 16) :: ((sb : Int).fmod 16 * 16 + (sc : Int).fdiv 4) :: ((sc : Int).fmod 4 * 64 + (sd : Int)) :: []) = [b64C sa, b64C sb, b64C sc, b64C sd] := hgr []
    clear hgr hd' ea eb ec ed
    refine back9 ?_
    clear back9 G9
    k_steps
    k_dflt (refine' bytes_K ?F ?N ?l ?i ?r ?z ?h ?_)
    case F => k_asm
    case N => k_asm
    case l => is_list
    case i => first | l_ints | l_intsW
    case r => exact three_in ba bb bc bd (fun n hn => absurd hn List.not_mem_nil)
    case z => first | size_fits | (simp only [sizeLine_eq, List.length_cons, List.length_nil]; decide)
    case h => with_unfolding_all rfl
    intro h' t' k' F' N' hB'
    (try dsimp only [List.map])
    k_steps
    unfold Stop
    k_dflt (refine' site_use ?k1 ?k2 ?k3 ?k4 ?k5 (enc_site _ _ _ _ [_, _, _] _ (by simp) (by simp)) ?kd ?ku ?_)
    case k1 => k_asm
    case k2 => k_asm
    case k3 => k_asm
    case k4 => k_asm
    case k5 => k_asm
    case kd => k_room
    case ku => k_units
    intro v9 hZ tk9 n9 FZ NZ hP9
    (try dsimp only at FZ NZ hP9)
    (try dsimp only)
    refine hideGoal fun G9 back9 => ?_
    obtain ⟨⟨tbl, t8, hok, rfl⟩, rfl⟩ := hP9
    have hval : trB tbl (outB (encI 0 0 ([((sa : Int) * 4 + (sb : Int).fdiv 16).toNat.toUInt8, ((sb : Int).fmod 16 * 16 + (sc : Int).fdiv 4).toNat.toUInt8, ((sc : Int).fmod 4 * 64 + (sd : Int)).toNat.toUInt8].map fun c => (c.toNat : Int)))) = ([a, b, c, d].map fun d => (signD d).toUInt8).toArray := by
      rw [← htr tbl hok, ← hen]
      simp only [List.map_cons, List.map_nil, hB'.1, hB'.2.1, hB'.2.2.1]
    refine back9 ?_
    clear back9 G9
    rw [hval]
    k_steps
    unfold Stop
    refine str_ascii (c := (signD a).toUInt8) (cs := [b, c, d].map fun d => (signD d).toUInt8) ?_ (by rw [sizeLine_eq]; simp) (fun t₉ k₉ => ?_)
    · intro x hx
      refine hideGoal fun G9 back9 => ?_
      obtain ⟨y, _, rfl⟩ := List.mem_map.mp (show x ∈ [a, b, c, d].map fun d => (signD d).toUInt8 from hx)
      refine back9 ?_
      clear back9 G9
      exact (sign_lt y).1
    · k_steps
      exact hret _ _ _ _ (by assumption) (by assumption) (by assumption) ⟨⟨t₉, by rw [← sign_text]; rfl⟩, by k_mem⟩
end Mine88
end

-- part P27
section
open PySem PySem.W PyProof.Rows PySem.Spec PySem.Calls
set_option maxRecDepth 100000
set_option maxHeartbeats 8000000
namespace Mine88
open PyProof.Rows.LCg
theorem eight_of {ys : List Value} {dn : List Nat} {G : Prop} (h : SixAre ys dn) (hl : dn.length = 8) (k : ∀ (d0 d1 d2 d3 d4 d5 d6 d7 s0 s1 s2 s3 s4 s5 s6 s7 : Nat) (t0 t1 t2 t3 t4 t5 t6 t7 : Tok), dn = [d0, d1, d2, d3, d4, d5, d6, d7] → ys = [.int ((s0 : Nat) : Int) t0, .int ((s1 : Nat) : Int) t1, .int ((s2 : Nat) : Int) t2, .int ((s3 : Nat) : Int) t3, .int ((s4 : Nat) : Int) t4, .int ((s5 : Nat) : Int) t5, .int ((s6 : Nat) : Int) t6, .int ((s7 : Nat) : Int) t7] → s0 = six d0 → s1 = six d1 → s2 = six d2 → s3 = six d3 → s4 = six d4 → s5 = six d5 → s6 = six d6 → s7 = six d7 → G) : G :=
  six_un h hl fun d0 t0 y1 n1 h hl e0 f0 => six_un h hl fun d1 t1 y2 n2 h hl e1 f1 => six_un h hl fun d2 t2 y3 n3 h hl e2 f2 => six_un h hl fun d3 t3 y4 n4 h hl e3 f3 => six_un h hl fun d4 t4 y5 n5 h hl e4 f4 => six_un h hl fun d5 t5 y6 n6 h hl e5 f5 => six_un h hl fun d6 t6 y7 n7 h hl e6 f6 => six_un h hl fun d7 t7 y8 n8 h hl e7 f7 => six_nil h hl fun e8 f8 =>
  k d0 d1 d2 d3 d4 d5 d6 d7 _ _ _ _ _ _ _ _ t0 t1 t2 t3 t4 t5 t6 t7 (by rw [e0, e1, e2, e3, e4, e5, e6, e7, e8]) (by rw [f0, f1, f2, f3, f4, f5, f6, f7, f8]) rfl rfl rfl rfl rfl rfl rfl rfl
theorem set_rows_P27 : True := by
  k_with_none
  k_with "call builtin:issubclass" => (k_here; (with_reducible show wpAny _ _ (call (Value.builtin "issubclass") [Value.type "str", Value.ref _]) _ _ _); k_dflt (refine' issub_call ?k1 ?_; (case k1 => exact News.get (by assumption) (by k_mem)); k_whole); intro tk_z)
  k_with "SrcLP" => (k_here; refine Stop.out ?_)
  k_with "CompSrc" => (k_here; refine Stop.out ?_)
  k_with "LeaveK" => (k_here; k_dflt (refine' leaveR ?k0 ?k1 ?k2 ?_; (case k0 => assumption); (case k1 => k_asm); (case k2 => k_asm); k_whole); intro kF_z kN_z kK_z)
  k_with "call ref" => (k_here; (with_reducible show wpAny _ _ (call (Value.ref _) _ _) _ _ _); refine Stop.out ?_)
  k_with "call type:str" => (k_here; refine Stop.out ?_)
  k_with "subscriptTail" => (k_here; (with_reducible show wpAny _ _ (subscriptTail (PySem.Expr.Tuple _ _ _) (PySem.Expr.Name _ _) (Value.ref _) (Value.int _ _)) _ _ _); k_dflt (refine' six_item ?zN ?zl ?zd ?_ ?zs; (case zN => k_asm); (case zl => k_mem); (case zd => assumption); (case zs => with_unfolding_all rfl); k_whole); intro t9_z)
  trivial
theorem written8 (w : World) (dp un : Nat) (rest : List (Addr × Obj)) (da : Addr) (vs : List Value) (we : Nat) (ds : List Nat) (hd : DigsAre vs ds) (hl : ds.length = 8) :
    SiteR w dp un 100 900 318 [.ref da] [] [(da, listO vs we)] rest (fun v n' => (∃ t, v = .str (S (ds.map signD)) t) ∧ (da, listO vs we) ∈ n') := by
  unfold SiteR
  k_fill
  intro gd cn csn csg csc csm aa ccd cl outer A₀ base h₀ L m s Q E p loose mean mg mb B F X N hR T₀ hdd hu hret
  refine wpAny_call ?_
  k_dflt (refine' code_defR hR ?k1 ?k2 ?k3 ?k4 ?k5 ?kA ?kF ?kK ?k6 ?k7 ?k8 ?k9 ?kB ?_ ?c2 ?c3 ?c4 ?c5; (case kA => exact rfl); (case kF => exact rfl); (case kK => exact rfl); (case k1 => k_asm); (case k2 => k_asm); (case k3 => k_asm); (case k4 => k_asm); (case k5 => k_asm); (case k6 => k_is); (case k7 => k_is); (case k8 => k_room); (case k9 => first | exact BindsTo.of_eq rfl | exact binds_K (by k_in) rfl (by k_is) rfl rfl rfl); (case c2 => exact rfl); (case c3 => exact rfl); (case c4 => exact rfl); (case c5 => decide); (case kB => exact locs rfl); k_whole)
  intro gR LR hR1 hg FG F₁ N₁ B₁ X₁ T₁
  (try dsimp only at *)
  k_steps
  unfold Stop
  have hvl : vs.length ≤ 1000 := by rw [hd.length, hl]; decide
  refine compU_src (fun r ys => ∃ dr dn, DigsAre r dr ∧ SixAre ys dn ∧ dn ++ dr = ds) (by rfl) (by k_asm) (by k_asm) (by k_mem) hvl ⟨ds, [], hd, .nil, rfl⟩ ?_ ?_
  · intro v r ys I oI C oC D m₂ hX tkX E' hJ hC hx FX NX off ne
    refine hideGoal fun G9 back9 => ?_
    obtain ⟨dr, dn, hr', hd', he⟩ := hJ
    cases hr' with
    | @cons _ dr d t hd4 hr'' =>
      refine back9 ?_
      clear back9 G9
      k_steps
      exact PEnd.intro (by k_asm) (by assumption) (fun _ h => .tail _ h) ⟨dr, dn ++ [d], hr'', hd'.snoc d _, by rw [← he]; simp⟩
  · intro g ys hJ
    refine hideGoal fun G9 back9 => ?_
    obtain ⟨dr, dn, hr', hd', he⟩ := hJ
    cases hr'
    rw [List.append_nil] at he
    subst he
    have hle : ∀ d ∈ dn, d ≤ 4 := hd.le
    refine eight_of hd' hl fun a b c d e f g' i' sa sb sc sd se sf sg si ta tb tc td te tf tg ti edn eys ea eb ec ed ee ef eg ei => ?_
    subst edn
    subst eys
    have ba : sa ≤ 63 := by rw [ea]; exact six_lt a
    have bb : sb ≤ 63 := by rw [eb]; exact six_lt b
    have bc : sc ≤ 63 := by rw [ec]; exact six_lt c
    have bd : sd ≤ 63 := by rw [ed]; exact six_lt d
    have be : se ≤ 63 := by rw [ee]; exact six_lt e
    have bf : sf ≤ 63 := by rw [ef]; exact six_lt f
    have bg : sg ≤ 63 := by rw [eg]; exact six_lt g'
    have bi : si ≤ 63 := by rw [ei]; exact six_lt i'
    have hgr := fun r => enc_group ba bb bc bd r
    have hgr2 := fun r => enc_group be bf bg bi r
    have htr : ∀ tbl, TblOk tbl → trB tbl (outB [b64C (six a), b64C (six b), b64C (six c), b64C (six d), b64C (six e), b64C (six f), b64C (six g'), b64C (six i')]) = _ := fun tbl h => tr_list h hle
    simp only [← ea, ← eb, ← ec, ← ed, ← ee, ← ef, ← eg, ← ei] at htr
    have hen : encI 0 0 (((sa : Int) * 4 + (sb : Int).fdiv 16) :: ((sb : Int).fmod 16 * 16 + (sc : Int).fdiv 4) :: ((sc : Int).fmod 4 * 64 + (sd : Int)) :: ((se : Int) * 4 + (sf : Int).fdiv 16) :: ((sf : Int).fmod 16 * 16 + (sg : Int).fdiv 4) :: ((sg : Int).fmod 4 * 64 + (si : Int)) :: []) = [b64C sa, b64C sb, b64C sc, b64C sd, b64C se, b64C sf, b64C sg, b64C si] := by rw [hgr, hgr2]; rfl
    clear hgr hgr2 hd' ea eb ec ed ee ef eg ei
    refine back9 ?_
    clear back9 G9
    k_steps
    k_dflt (refine' bytes_K ?F ?N ?l ?i ?r ?z ?h ?_)
    case F => k_asm
    case N => k_asm
    case l => is_list
    case i => first | l_ints | l_intsW
    case r => exact three_in ba bb bc bd (three_in be bf bg bi (fun n hn => absurd hn List.not_mem_nil))
    case z => first | size_fits | (simp only [sizeLine_eq, List.length_cons, List.length_nil]; decide)
    case h => with_unfolding_all rfl
    intro h' t' k' F' N' hB'
    (try dsimp only [List.map])
    k_steps
    unfold Stop
    k_dflt (refine' site_use ?k1 ?k2 ?k3 ?k4 ?k5 (enc_site _ _ _ _ [_, _, _, _, _, _] _ (by simp) (by simp)) ?kd ?ku ?_)
    case k1 => k_asm
    case k2 => k_asm
    case k3 => k_asm
    case k4 => k_asm
    case k5 => k_asm
    case kd => k_room
    case ku => k_units
    intro v9 hZ tk9 n9 FZ NZ hP9
    (try dsimp only at FZ NZ hP9)
    (try dsimp only)
    refine hideGoal fun G9 back9 => ?_
    obtain ⟨⟨tbl, t8, hok, rfl⟩, rfl⟩ := hP9
    have hval : trB tbl (outB (encI 0 0 ([((sa : Int) * 4 + (sb : Int).fdiv 16).toNat.toUInt8, ((sb : Int).fmod 16 * 16 + (sc : Int).fdiv 4).toNat.toUInt8, ((sc : Int).fmod 4 * 64 + (sd : Int)).toNat.toUInt8, ((se : Int) * 4 + (sf : Int).fdiv 16).toNat.toUInt8, ((sf : Int).fmod 16 * 16 + (sg : Int).fdiv 4).toNat.toUInt8, ((sg : Int).fmod 4 * 64 + (si : Int)).toNat.toUInt8].map fun c => (c.toNat : Int)))) = ([a, b, c, d, e, f, g', i'].map fun d => (signD d).toUInt8).toArray := by
      rw [← htr tbl hok, ← hen]
      simp only [List.map_cons, List.map_nil, hB'.1, hB'.2.1, hB'.2.2.1, hB'.2.2.2.1, hB'.2.2.2.2.1, hB'.2.2.2.2.2.1]
    refine back9 ?_
    clear back9 G9
    rw [hval]
    k_steps
    unfold Stop
    refine str_ascii (c := (signD a).toUInt8) (cs := [b, c, d, e, f, g', i'].map fun d => (signD d).toUInt8) ?_ (by rw [sizeLine_eq]; simp) (fun t₉ k₉ => ?_)
    · intro x hx
      refine hideGoal fun G9 back9 => ?_
      obtain ⟨y, _, rfl⟩ := List.mem_map.mp (show x ∈ [a, b, c, d, e, f, g', i'].map fun d => (signD d).toUInt8 from hx)
      refine back9 ?_
      clear back9 G9
      exact (sign_lt y).1
    · k_steps
      exact hret _ _ _ _ (by assumption) (by assumption) (by assumption) ⟨⟨t₉, by rw [← sign_text]; rfl⟩, by k_mem⟩
end Mine88
end

-- part P29
section
open PySem PySem.W PyProof.Rows PySem.Spec PySem.Calls
set_option maxRecDepth 100000
set_option maxHeartbeats 8000000
namespace Mine88
open PyProof.Rows.LCg
/-! loops whose target is captured -/
noncomputable def EndF (h₀ : Heap) (L : Addr) (s₁ : Shared) (I : Addr) (it : Obj) (c : Addr) (oc : Obj) (S : Led → Prop) (Jn : Fm → Led → Prop) (Q : Flow → Shared → Prop) (f : Flow) (s₂ : Shared) : Prop :=
  match f with
  | .ret v => Q (.ret v) s₂
  | .brk => Q .next s₂
  | _ => ∃ h' tk m' n', s₂ = { s₁ with heap := h', toks := tk } ∧ Fr h₀ L h' m' ∧ News h₀ L h' ((I, it) :: (c, oc) :: n') ∧ (∀ p ∈ n', p.1 ≠ I ∧ p.1 ≠ c) ∧ S n' ∧ Jn m' n'
theorem EndF.intro {h₀ : Heap} {L : Addr} {s₁ : Shared} {I : Addr} {it : Obj} {c : Addr} {oc : Obj} {S : Led → Prop} {Jn : Fm → Led → Prop} {Q : Flow → Shared → Prop} {h' : Heap} {tk : Nat} {m' : Fm} {all : Led} (F : Fr h₀ L h' m') (N : News h₀ L h' all) (hI : (I, it) ∈ all) (hc : (c, oc) ∈ all)
    (hS : S (off I (off c all))) (hJ : Jn m' (off I (off c all))) : EndF h₀ L s₁ I it c oc S Jn Q .next { s₁ with heap := h', toks := tk } :=
  ⟨h', tk, m', off I (off c all), rfl, F, fun p hp => N p (by
    rcases List.mem_cons.mp hp with rfl | hp
    · exact hI
    · rcases List.mem_cons.mp hp with rfl | hp
      · exact hc
      · exact off_sub _ (off_sub _ hp)), fun p hp => ⟨off_ne p hp, off_ne p (off_sub p hp)⟩, hS, hJ⟩
noncomputable def LoopAtC (prog : PySem.Program) (w : World) (A : Around) (h₀ : Heap) (env : Env) (c : Addr) (body : List Stmt) (Q : Flow → Shared → Prop) (E : Value → Shared → Prop) (it : Value) (s₂ : Shared) : Prop :=
  ∃ (I : Addr) (fp : List Addr) (n : Nat) (P : Nat → Value → Prop) (St : Nat → Heap → Prop) (S : Led → Prop) (m : Fm) (news : Led) (J : Nat → Fm → Led → Prop) (oc : Obj) (v₀ : Option Value),
    it = .ref I ∧ Walks prog w A I fp [I] n P St ∧ env.locals ∉ fp ∧ h₀.get? I = none ∧ c ∉ fp ∧ c ≠ I ∧
    (∀ i h, St i h → ∃ o, h.get? I = some o) ∧ (∀ i h h' o nw, St i h → h.get? I = some o → h'.get? I = some o → (∀ b o, h₀.get? b = some o → h'.get? b = some o) → News h₀ env.locals h' nw → S nw → St i h') ∧
    (∀ p ∈ news, p.1 ≠ I ∧ p.1 ≠ c) ∧ St 0 s₂.heap ∧ Fr h₀ env.locals s₂.heap m ∧ News h₀ env.locals s₂.heap ((c, oc) :: news) ∧ oc.data = .cell v₀ ∧ S news ∧ J 0 m news ∧
    (∀ i v m₁ n₁ it oc h tk, i < n → P i v → J i m₁ n₁ → (∀ p ∈ n₁, p.1 ≠ I ∧ p.1 ≠ c) → oc.data = .cell (some v) → Fr h₀ env.locals h m₁ → News h₀ env.locals h ((I, it) :: (c, oc) :: n₁) →
      wpAny (model prog w) A (execs body env) (EndF h₀ env.locals { s₂ with heap := h, toks := tk } I it c oc S (J (i + 1)) Q) E { s₂ with heap := h, toks := tk }) ∧
    ∀ m₁ n₁ oc v₁ h tk, J n m₁ n₁ → oc.data = .cell v₁ → (∀ p ∈ n₁, p.1 ≠ c) → Fr h₀ env.locals h m₁ → News h₀ env.locals h ((c, oc) :: n₁) → Q .next { s₂ with heap := h, toks := tk }
section
variable {prog : PySem.Program} {w : World} {A : Around} {E : Value → Shared → Prop} {s : Shared} {h₀ : Heap} {env : Env} {c : Addr} {body : List Stmt} {Q : Flow → Shared → Prop}
theorem For_cell {x : PySem.Str} {px pos : Pos} {iter : PySem.Expr} {m : Fm} (_F : Fr h₀ env.locals s.heap m) (hk : env.scope.kind = .function) (hx : env.kindOf x = some .cell) (hc : env.cells.lookup x = some c)
    (h : wpAny (model prog w) A (eval iter env) (fun xv s₁ => wpAny (model prog w) A (pyIter xv) (fun it s₂ => LoopAtC prog w A h₀ env c body Q E it s₂) E s₁) E s)
    (hs : ∀ x, foldedSetIterable iter env x = pure x)
    (hE : PassesOwn (model prog w) A env E := by passes_own) :
    wpAny (model prog w) A (exec (.For (.Name x px) iter body [] pos) env) Q E s := by
  refine wpAny_For (wpAny_mono h (fun xv s₁ h₁ => wpAny_mono h₁ (fun it s₂ h₂ => ?_) fun _ _ e => e) fun _ _ e => e) hs
  obtain ⟨I, fp, n, P, St, S, m, news, J, oc, v₀, rfl, W, hLf, hI₀, hcf, hcI, hIo, hSt, off, hst, F, N, hoc, hS, h0, turn, done⟩ := h₂
  have hIL : env.locals ≠ I := fun q => hLf (q ▸ W.sub I (List.mem_singleton.mpr rfl))
  have zc := N _ (List.mem_cons_self ..)
  have hcL : c ≠ env.locals := zc.2.1
  have hc₀ : h₀.get? c = none := zc.2.2
  refine codeAny_forLoop (R := fun r s' => match r with | .ok f => Q f s' | .error e => cameBackBy (model prog w) A env E e s')
    (fun k s' => ∃ h' tk i m' n' oc' v', s' = { s₂ with heap := h', toks := tk } ∧ i ≤ n ∧ k = n + 1 - i ∧ St i h' ∧ Fr h₀ env.locals h' m' ∧ News h₀ env.locals h' ((c, oc') :: n') ∧ oc'.data = .cell v' ∧ (∀ p ∈ n', p.1 ≠ I ∧ p.1 ≠ c) ∧ S n' ∧ J i m' n') ?_ (n + 1)
    ⟨s₂.heap, s₂.toks, 0, m, news, oc, v₀, rfl, Nat.zero_le _, rfl, hst, F, N, hoc, off, hS, h0⟩
  rintro k s' ⟨h', tk, i, m', n', oc', v', rfl, hi, rfl, hst', F', N', hoc', off', hS', hJ⟩
  by_cases hlt : i < n
  · refine W.item i _ _ _ hlt hst' fun v h₁ tk₁ hP hst₁ hk₁ => ?_
    have F₁ : Fr h₀ env.locals h₁ m' := fr_but F' hk₁ hIL hI₀
    have N₁ : News h₀ env.locals h₁ ((c, oc') :: n') := news_but N' hk₁ fun p hp => by
      rcases List.mem_cons.mp hp with rfl | hp
      · exact hcI
      · exact (off' p hp).1
    refine wpAny_assign_Name (wpAny_storeName_cell hk hx hc ⟨oc', (N₁ _ (List.mem_cons_self ..)).1, hoc'⟩ fun h₂ hc₂ hs₂ => ?_)
    obtain ⟨oc₂, hec, hoc₂⟩ := hc₂
    have hst₂ : St (i + 1) h₂ := W.frame _ _ _ hst₁ fun b hb o e => (hs₂.2 b fun q => hcf (q ▸ hb)).trans e
    obtain ⟨it, hit⟩ := hIo _ _ hst₂
    have F₂ : Fr h₀ env.locals h₂ m' := F₁.change hs₂ hcL hc₀
    have N₂ : News h₀ env.locals h₂ ((I, it) :: (c, oc₂) :: n') := fun p hp => by
      rcases List.mem_cons.mp hp with rfl | hp
      · exact ⟨hit, Ne.symm hIL, hI₀⟩
      · rcases List.mem_cons.mp hp with rfl | hp
        · exact ⟨hec, hcL, hc₀⟩
        · have z := N₁ p (List.mem_cons_of_mem _ hp)
          exact ⟨(hs₂.2 _ (off' p hp).2).trans z.1, z.2⟩
    refine wpAny_mono (wpAny_passesOwn hE (turn i v m' n' it oc₂ h₂ _ hlt hP hJ off' hoc₂ F₂ N₂)) (fun f s₃ h₃ => ?_) fun _ _ e => e
    have fin : (∃ h' tk m'' n'', s₃ = { s₂ with heap := h', toks := tk } ∧ Fr h₀ env.locals h' m'' ∧ News h₀ env.locals h' ((I, it) :: (c, oc₂) :: n'') ∧ (∀ p ∈ n'', p.1 ≠ I ∧ p.1 ≠ c) ∧ S n'' ∧ J (i + 1) m'' n'') →
        ∃ m, m < n + 1 - i ∧ ∃ h' tk i m' n' oc' v', s₃ = { s₂ with heap := h', toks := tk } ∧ i ≤ n ∧ m = n + 1 - i ∧ St i h' ∧ Fr h₀ env.locals h' m' ∧ News h₀ env.locals h' ((c, oc') :: n') ∧ oc'.data = .cell v' ∧ (∀ p ∈ n', p.1 ≠ I ∧ p.1 ≠ c) ∧ S n' ∧ J i m' n' := by
      rintro ⟨h₃, tk₃, m₃, n₃, e, F₃, N₃, off₃, hS₃, hJ₃⟩
      have zI := (N₃ (I, it) (List.mem_cons_self ..)).1
      have N₃' : News h₀ env.locals h₃ n₃ := fun p hp => N₃ p (List.mem_cons_of_mem _ (List.mem_cons_of_mem _ hp))
      exact ⟨n + 1 - (i + 1), by lia, h₃, tk₃, i + 1, m₃, n₃, oc₂, some v, e, hlt, rfl, hSt _ _ _ _ _ hst₂ hit zI F₃.keep N₃' hS₃, F₃, fun p hp => N₃ p (List.mem_cons_of_mem _ hp), hoc₂, off₃, hS₃, hJ₃⟩
    cases f with
    | ret v => exact h₃
    | brk => exact h₃
    | cont => exact fin h₃
    | next => exact fin h₃
  · have hin : i = n := by lia
    subst hin
    refine W.done _ _ _ hst' fun h₁ tk₁ hk₁ => wpAny_execs_nil ?_
    have N₁ : News h₀ env.locals h₁ ((c, oc') :: n') := news_but N' hk₁ fun p hp => by
      rcases List.mem_cons.mp hp with rfl | hp
      · exact hcI
      · exact (off' p hp).1
    exact done m' n' oc' v' h₁ tk₁ hJ hoc' (fun p hp => (off' p hp).2) (fr_but F' hk₁ hIL hI₀) N₁
/-- over a list of the ledger -/
theorem iter_listC {ax : Addr} {vs : List Value} {ep : Nat} {m : Fm} {news : Led} {oc : Obj} {v₀ : Option Value} (J : List Value → Fm → Led → Prop)
    (hh : A.handled = none) (F : Fr h₀ env.locals s.heap m) (N : News h₀ env.locals s.heap ((c, oc) :: news)) (hoc : oc.data = .cell v₀) (off : ∀ p ∈ news, p.1 ≠ c) (hm : (ax, listO vs ep) ∈ news) (h0 : J vs m news)
    (turn : ∀ v r m₁ n₁ I it oc h tk, (∀ p ∈ news, p.1 < I) → c < I → J (v :: r) m₁ n₁ → (∀ p ∈ n₁, p.1 ≠ I ∧ p.1 ≠ c) → oc.data = .cell (some v) → Fr h₀ env.locals h m₁ → News h₀ env.locals h ((I, it) :: (c, oc) :: n₁) →
      wpAny (model prog w) A (execs body env) (EndF h₀ env.locals { s with heap := h, toks := tk } I it c oc (SrcAt h₀ ax vs.toArray) (J r) Q) E { s with heap := h, toks := tk })
    (done : ∀ m₁ n₁ oc v₁ h tk, J [] m₁ n₁ → oc.data = .cell v₁ → (∀ p ∈ n₁, p.1 ≠ c) → Fr h₀ env.locals h m₁ → News h₀ env.locals h ((c, oc) :: n₁) → Q .next { s with heap := h, toks := tk }) :
    wpAny (model prog w) A (pyIter (.ref ax)) (fun it s₂ => LoopAtC prog w A h₀ env c body Q E it s₂) E s := by
  have zx := N _ (List.mem_cons_of_mem _ hm)
  have hl : s.heap.IsList ax vs.toArray := ⟨_, zx.1, rfl, _, rfl⟩
  have hlt : ax < s.heap.objs.size := Heap.lt_size zx.1
  have hclt : c < s.heap.objs.size := Heap.lt_size (N _ (List.mem_cons_self ..)).1
  refine wpAny_pyIter_list hl ?_
  have up : ∀ b o, s.heap.get? b = some o → (s.heap.push { cls := .type "list_iterator", data := .fields #[.ref ax, .int 0 0] }).get? b = some o := fun b o e => Heap.get?_push_of_some _ e
  refine ⟨s.heap.objs.size, [s.heap.objs.size, ax], vs.toArray.size, _, _, SrcAt h₀ ax vs.toArray, m, news, fun i m n => J (vs.drop i) m n, oc, v₀, rfl, Walks.list hh s.heap.objs.size ax (Nat.ne_of_lt hlt) vs.toArray, ?_, next_is_new F, ?_, Nat.ne_of_lt hclt,
    (fun i h st => by obtain ⟨o, e, _⟩ := st.1; exact ⟨o, e⟩), list_st, (fun p hp => ⟨Nat.ne_of_lt (Heap.lt_size (N p (List.mem_cons_of_mem _ hp)).1), off p hp⟩), ⟨⟨_, Heap.get?_push_size _ rfl, rfl, rfl⟩, hl.push _⟩, F.keeps up, N.grown up, hoc, .inr ⟨_, hm, rfl, _, rfl⟩, by simpa using h0, ?_, ?_⟩
  · intro hmm
    rcases List.mem_cons.mp hmm with e | hmm
    · exact absurd F.ns.lt (e ▸ Nat.lt_irrefl _)
    · exact zx.2.1 (List.mem_singleton.mp hmm).symm
  · intro hmm
    rcases List.mem_cons.mp hmm with e | hmm
    · exact absurd hclt (e ▸ Nat.lt_irrefl _)
    · exact off _ hm (List.mem_singleton.mp hmm).symm
  · intro i v m₁ n₁ it oc h tk hi hP hJ hoff hoc F₁ N₁
    have hlt' : i < vs.length := by simpa using hi
    have e : vs[i] = v := by
      have hv' : vs[i]? = some v := by simpa using hP
      rw [List.getElem?_eq_getElem hlt'] at hv'
      exact Option.some.inj hv'
    rw [List.drop_eq_getElem_cons hlt', e] at hJ
    exact turn v _ m₁ n₁ s.heap.objs.size it oc h tk (fun p hp => Heap.lt_size (N p (List.mem_cons_of_mem _ hp)).1) hclt hJ hoff hoc F₁ N₁
  · intro m₁ n₁ oc v₁ h tk hJ hoc hoff F₁ N₁
    have : vs.drop vs.toArray.size = [] := List.drop_eq_nil_of_le (by simp)
    rw [this] at hJ
    exact done m₁ n₁ oc v₁ h tk hJ hoc hoff F₁ N₁
/-- over a range by ones -/
theorem iter_rangeC {r : Addr} {a b : Int} {t u v : Tok} {n : Nat} {m : Fm} {news : Led} {oc : Obj} {v₀ : Option Value} (J : Nat → Fm → Led → Prop)
    (hh : A.handled = none) (hr : IsRange s.heap r a b 1 t u v) (hsm : Builtin.Range.small a b 1 = true) (hn : Builtin.Range.rangeSize a b 1 = ((n : Nat) : Int)) (F : Fr h₀ env.locals s.heap m) (N : News h₀ env.locals s.heap ((c, oc) :: news)) (hoc : oc.data = .cell v₀) (off : ∀ p ∈ news, p.1 ≠ c) (h0 : J 0 m news)
    (turn : ∀ i t m₁ n₁ I it oc h tk, i < n → (∀ p ∈ news, p.1 < I) → c < I → J i m₁ n₁ → (∀ p ∈ n₁, p.1 ≠ I ∧ p.1 ≠ c) → oc.data = .cell (some (.int (a + (i : Int)) t)) → Fr h₀ env.locals h m₁ → News h₀ env.locals h ((I, it) :: (c, oc) :: n₁) →
      wpAny (model prog w) A (execs body env) (EndF h₀ env.locals { s with heap := h, toks := tk } I it c oc (fun _ => True) (J (i + 1)) Q) E { s with heap := h, toks := tk })
    (done : ∀ m₁ n₁ oc v₁ h tk, J n m₁ n₁ → oc.data = .cell v₁ → (∀ p ∈ n₁, p.1 ≠ c) → Fr h₀ env.locals h m₁ → News h₀ env.locals h ((c, oc) :: n₁) → Q .next { s with heap := h, toks := tk }) :
    wpAny (model prog w) A (pyIter (.ref r)) (fun it s₂ => LoopAtC prog w A h₀ env c body Q E it s₂) E s := by
  have hclt : c < s.heap.objs.size := Heap.lt_size (N _ (List.mem_cons_self ..)).1
  refine wpAny_pyIter_range hr hsm ?_
  refine ⟨s.heap.objs.size, [s.heap.objs.size], n, _, _, fun _ => True, m, news, J, oc, v₀, rfl, range_walks hh a n, ?_, next_is_new F, ?_, Nat.ne_of_lt hclt,
    (fun i h st => ⟨_, st⟩), range_st, (fun p hp => ⟨Nat.ne_of_lt (Heap.lt_size (N p (List.mem_cons_of_mem _ hp)).1), off p hp⟩), (by show IsRangeIter _ _ _ _ _; rw [hn]; simpa using Heap.get?_push_size _ rfl), F.keeps fun _ _ e => Heap.get?_push_of_some _ e, N.grown fun _ _ e => Heap.get?_push_of_some _ e, hoc, trivial, h0, ?_, ?_⟩
  · intro hmm
    exact absurd F.ns.lt ((List.mem_singleton.mp hmm) ▸ Nat.lt_irrefl _)
  · intro hmm
    exact absurd hclt ((List.mem_singleton.mp hmm) ▸ Nat.lt_irrefl _)
  · rintro i v m₁ n₁ it oc h tk hi ⟨t, rfl⟩ hJ hoff hoc F₁ N₁
    exact turn i t m₁ n₁ s.heap.objs.size it oc h tk hi (fun p hp => Heap.lt_size (N p (List.mem_cons_of_mem _ hp)).1) hclt hJ hoff hoc F₁ N₁
  · intro m₁ n₁ oc v₁ h tk hJ hoc hoff F₁ N₁
    exact done m₁ n₁ oc v₁ h tk hJ hoc hoff F₁ N₁
end
end Mine88
end

-- part P30
section
open PySem PySem.W PyProof.Rows PySem.Spec PySem.Calls PySem.Builtin.Str
set_option maxRecDepth 100000
set_option maxHeartbeats 8000000
namespace Mine88
theorem slice_takeA {l : List Nat} {k : Nat} {j : Int} (hj : j = k) : Txt.slice (S l) none (some j) = S (l.take k) := by
  by_cases hk : k ≤ l.length
  · exact slice_take hk hj
  · subst hj
    rw [slice_ab (a := 0) (b := l.length) ?_ (Nat.zero_le _) (Nat.le_refl _)]
    · rw [List.take_of_length_le (by lia : l.length ≤ k), List.drop_zero, Nat.sub_zero, List.take_length]
    · have h2 : ¬ ((k : Int) < 0) := by lia
      have e1 : max (0 : Int) (min (k : Int) (l.length : Int)) = l.length := by lia
      simp only [strSliceIndices, sliceRange, h2, if_false, e1, show ((1 : Int) > 0) = True from by simp, if_true]
      have e : (if (0 : Int) < l.length then ((l.length : Int) - 0 + 1 - 1) / 1 else 0).toNat = l.length - 0 := by
        split <;> (try simp only [Int.ediv_one]) <;> lia
      rw [e]
      apply List.map_congr_left
      intro i _
      lia
theorem slice_dropA {l : List Nat} {k : Nat} {j : Int} (hj : j = k) : Txt.slice (S l) (some j) none = S (l.drop k) := by
  by_cases hk : k ≤ l.length
  · exact slice_drop hk hj
  · subst hj
    rw [slice_ab (a := l.length) (b := l.length) ?_ (Nat.le_refl _) (Nat.le_refl _)]
    · rw [List.drop_eq_nil_of_le (by lia : l.length ≤ k), Nat.sub_self, List.take_zero]
    · unfold strSliceIndices sliceRange
      simp only [show (1 : Int) > 0 by decide, if_true]
      rw [if_neg (by lia), show max 0 (min (k : Int) l.length) = (l.length : Int) by lia]
      have e : (if (l.length : Int) < l.length then ((l.length : Int) - l.length + 1 - 1) / 1 else 0).toNat = l.length - l.length := by
        split <;> (try simp only [Int.ediv_one]) <;> lia
      rw [e]
      apply List.map_congr_left
      intro i _
      lia
theorem S_beq (a b : List Nat) : (S a == S b) = (a == b) := by
  by_cases h : a = b
  · rw [h]; simp
  · have : S a ≠ S b := fun e => h (by have : a.toArray = b.toArray := by injection e
                                       simpa using congrArg Array.toList this)
    rw [beq_eq_false_iff_ne.mpr h, beq_eq_false_iff_ne.mpr this]
theorem take_signs {l : List Nat} (h : l.all isLetter = true) (k : Nat) : (l.take k).all isSign = true := signs_of_letters (List.all_eq_true.mpr fun c hc => List.all_eq_true.mp h c (List.mem_of_mem_take hc))
/-- of the words that begin so, what is left of the first one -/
noncomputable def likeK (k : Nat) (w one : List Nat) : Bool := (one.take k).map lowC == (w.take k).map lowC
noncomputable def leftK (W : List (List Nat)) (w : List Nat) (k : Nat) : PySem.Str := ((W.filter (likeK k w)).map fun one => S (one.drop k)).headD (S [])
noncomputable def leftW (W : List (List Nat)) (w : List Nat) : List PySem.Str := (List.range w.length).map fun i => leftK W w (i + 1)
theorem like_test {w one : List Nat} {k : Nat} {j : Int} (hj : j = k) (hw : w.all isLetter = true) (ho : one.all isLetter = true) :
    (Txt.lower (Txt.slice (S one) none (some j)) == Txt.lower (Txt.slice (S w) none (some j))) = likeK k w one := by
  rw [slice_takeA hj, slice_takeA hj, lower_S (take_signs hw k), lower_S (take_signs ho k), S_beq]
  rfl
end Mine88
end

-- part P28
section
open PySem PySem.W PyProof.Rows PySem.Spec PySem.Calls
set_option maxRecDepth 100000
set_option maxHeartbeats 8000000
namespace Mine88
open PyProof.Rows.LCg
theorem left_len {W' Wd : List (List Nat)} (h : ∀ w ∈ Wd, okWord w = true) : (Wd.flatMap (leftW W')).length ≤ 4 * Wd.length := by
  induction Wd with
  | nil => simp
  | cons w r ih =>
    have ok := h w (List.mem_cons_self ..)
    simp only [okWord, Bool.and_eq_true, decide_eq_true_eq] at ok
    have := ih fun v hv => h v (List.mem_cons_of_mem _ hv)
    rw [List.flatMap_cons, List.length_append]
    have e : (leftW W' w).length = w.length := by simp [leftW]
    rw [e]; simp only [List.length_cons]; lia
inductive LeftJX (W : List (List Nat)) (wa la csz : Addr) (vs : List Value) (we : Nat) (m₀ : Fm) (r : List Value) (m : Fm) (n : Led) : Prop
  | mk : ∀ Wd Wr lvs e os v₁, W = Wd ++ Wr → StrsAre r (Wr.map S) → (la, listO lvs e) ∈ n → StrsAre lvs (Wd.flatMap (leftW W)) → (csz, os) ∈ n → os.data = .cell v₁ → (wa, listO vs we) ∈ n → m = m₀ → LeftJX W wa la csz vs we m₀ r m n
structure LeftJ (W : List (List Nat)) (wa la csz : Addr) (vs : List Value) (we : Nat) (m₀ : Fm) (r : List Value) (m : Fm) (n : Led) : Prop where
  ex : LeftJX W wa la csz vs we m₀ r m n
inductive LeftKX (W : List (List Nat)) (wa la cw I : Addr) (it ow : Obj) (vs : List Value) (we : Nat) (told : List PySem.Str) (w₁ : List Nat) (m₀ : Fm) (i : Nat) (m : Fm) (n : Led) : Prop
  | mk : ∀ lvs e, (la, listO lvs e) ∈ n → StrsAre lvs (told ++ (List.range i).map fun i => leftK W w₁ (i + 1)) → (cw, ow) ∈ n → (I, it) ∈ n → (wa, listO vs we) ∈ n → m = m₀ → LeftKX W wa la cw I it ow vs we told w₁ m₀ i m n
structure LeftK (W : List (List Nat)) (wa la cw I : Addr) (it ow : Obj) (vs : List Value) (we : Nat) (told : List PySem.Str) (w₁ : List Nat) (m₀ : Fm) (i : Nat) (m : Fm) (n : Led) : Prop where
  ex : LeftKX W wa la cw I it ow vs we told w₁ m₀ i m n
theorem set_rows_P28 : True := by
  k_with_none
  k_with "call builtin:issubclass" => (k_here; (with_reducible show wpAny _ _ (call (Value.builtin "issubclass") [Value.type "str", Value.ref _]) _ _ _); k_dflt (refine' issub_call ?k1 ?_; (case k1 => exact News.get (by assumption) (by k_mem)); k_whole); intro tk_z)
  k_with "truthy str" => (k_here; (with_reducible show wpAny _ _ (PySem.truthy (Value.str _ _)) _ _ _); (refine' KXt.truthy_pos (K := 1000) ?kxta ?kxtb ?kxtc ?_; (case kxta => assumption); (case kxtb => assumption); (case kxtc => exact Nat.le_of_ble_eq_true rfl)); intro _)
  k_with "call builtin:list.append" => (k_here; (with_reducible show wpAny _ _ (call (Value.builtin _) [Value.ref _, _]) _ _ _); k_dflt (refine' append_in ?k1 ?k2 ?k3 ?k4 ?_; (case k1 => k_asm); (case k2 => k_asm); (case k3 => k_mem); (case k4 => first | assumption | (simp only [List.length_append, List.length_cons, List.length_nil]; omega)); k_whole); intro h'_z F'_z N'_z)
  k_with "SrcLP" => (k_here; refine Stop.out ?_)
  k_with "CompSrc" => (k_here; refine Stop.out ?_)
  k_with "CompSrcT" => (k_here; refine Stop.out ?_)
  k_with "exec For Name Name cons nil" => (k_here; (rename Fr _ _ _ _ => lF'); (with_unfolding_all refine' For_invVF lF' ?k1 ?k2 ?_; (case k1 => exact rfl); (case k2 => exact rfl); k_whole))
  k_with "exec For Name Call cons nil" => (k_here; (rename Fr _ _ _ _ => lF'); (with_unfolding_all refine' For_invVF lF' ?k1 ?k2 ?_; (case k1 => exact rfl); (case k2 => exact rfl); k_whole))
  k_with "pyIter ref" => ((with_reducible show wpAny _ _ (pyIter (Value.ref _)) (fun it s₂ => LoopAtV _ _ _ _ _ _ _ _ _ it s₂) _ _); k_here; refine Stop.out ?_)
  k_with "LeaveK" => (k_here; k_dflt (refine' leaveR ?k0 ?k1 ?k2 ?_; (case k0 => assumption); (case k1 => k_asm); (case k2 => k_asm); k_whole); intro kF_z kN_z kK_z)
  trivial
theorem left_c (w : World) (dp un : Nat) (rest : List (Addr × Obj)) (wa : Addr) (vs : List Value) (we : Nat) (W : List (List Nat)) (hs : StrsAre vs (W.map S)) (hW : ∀ w ∈ W, okWord w = true) (hl : W.length ≤ 3) :
    SiteR w dp un 60 600 337 [.ref wa] [] [(wa, listO vs we)] rest (fun v n' => ∃ D ys e, v = .ref D ∧ StrsAre ys (W.flatMap (leftW W)) ∧ (D, listO ys e) ∈ n' ∧ (wa, listO vs we) ∈ n') := by
  unfold SiteR
  k_fill
  intro gd cn csn csg csc csm aa ccd cl outer A₀ base h₀ L m s Q E p loose mean mg mb B F X N hR T₀ hdd hu hret
  refine wpAny_call ?_
  k_dflt (refine' code_defCR hR ?k1 ?k2 ?k3 ?k4 ?k5 ?kA ?kF ?kK ?k6 ?k7 ?k8 ?k9 ?kB ?kD ?_ ?c2 ?c3 ?c4; (case kA => exact rfl); (case kF => exact rfl); (case kK => exact rfl); (case k1 => k_asm); (case k2 => k_asm); (case k3 => k_asm); (case k4 => k_asm); (case k5 => k_asm); (case k6 => k_is); (case k7 => k_is); (case k8 => k_room); (case k9 => first | exact BindsTo.of_eq rfl | exact binds_K (by k_in) rfl (by k_is) rfl rfl rfl); (case c2 => exact rfl); (case c3 => exact rfl); (case c4 => exact rfl); (case kB => exact rfl); (case kD => decide +kernel); k_whole)
  intro gR LR hR1 tkR cellsR hg FG F₁ N₁ YR B₁ X₁ T₁ lR
  (try k_lt lR)
  have hYR := CellsAre.two YR
  obtain ⟨oc1, oc2, hER, dc1, dc2⟩ := hYR
  subst hER
  clear YR
  (try simp only [List.cons_append, List.nil_append] at N₁)
  (try dsimp only)
  have dw : oc2.data = .cell none := dc2
  have dsz : oc1.data = .cell none := dc1
  clear dc1 dc2
  k_steps
  (with_unfolding_all refine' For_cell ?hF ?hk ?hx ?hc ?_ ?hs); (case hF => k_asm); (case hk => rfl); (case hx => rfl); (case hc => rfl); (case hs => (intro _; with_unfolding_all rfl))
  k_steps
  (rename News _ _ _ [_, _, _, _] => N₃)
  (rename (_ ∧ _ ∧ @LT.lt Nat _ wa _) => hl1)
  rename_i la hA hB FB
  have dla1 : la ≠ LR + 1 := Nat.ne_of_gt hl1.2.1
  have dla2 : la ≠ LR + 1 + 1 := Nat.ne_of_gt hl1.1
  have dwa1 : wa ≠ LR + 1 := Nat.ne_of_lt (Nat.lt_succ_of_lt lR)
  have dwa2 : wa ≠ LR + 1 + 1 := Nat.ne_of_lt (Nat.lt_succ_of_lt (Nat.lt_succ_of_lt lR))
  have dwl : wa ≠ la := Nat.ne_of_lt hl1.2.2
  refine iter_listC (vs := vs) (ep := we) (news := [(la, PySem.W.listOf #[] 0), (LR + 1 + 1, oc1), (wa, listO vs we)]) (LeftJ W wa la (LR + 1 + 1) vs we _) (by rfl) (by k_asm) (fun p hp => N₃ p ?N) dw ?off (by k_mem) ⟨⟨[], W, [], 0, _, _, rfl, hs, .head _, .nil, .tail _ (.head _), dsz, .tail _ (.tail _ (.head _)), rfl⟩⟩ ?turn ?done
  case N =>
    simp only [List.mem_cons, List.not_mem_nil, or_false] at hp ⊢
    rcases hp with h | h | h | h <;> simp [h]
  case off =>
    intro p hp
    simp only [List.mem_cons, List.not_mem_nil, or_false] at hp
    refine hideGoal fun G9 back9 => ?_
    rcases hp with h | h | h <;> subst h
    · refine back9 ?_
      clear back9 G9
      exact dla1
    · refine back9 ?_
      clear back9 G9
      exact Nat.ne_of_gt (Nat.lt_succ_self _)
    · refine back9 ?_
      clear back9 G9
      exact dwa1
  case turn =>
    intro v r m₁ n₁ I it oc h tk hI hcI x9 hoff hoc F₁ N₁
    refine hideGoal fun G9 back9 => ?_
    obtain ⟨Wd, Wr, lvs, e, os, v₁, hWW, hsr, hla, hlv, hcs, hos, hwa, rfl⟩ := x9
    have hIla := hI _ (.head _)
    have hIcs := hI _ (.tail _ (.head _))
    cases Wr with
    | nil => cases hsr
    | cons w₁ Wr =>
      cases hsr with
      | cons _ t₁ hsr =>
        have ok₁ := hW w₁ (by rw [hWW]; simp)
        simp only [okWord, Bool.and_eq_true, decide_eq_true_eq] at ok₁
        have hwz : (S w₁).length ≤ 1000 := by show w₁.toArray.size ≤ 1000; simp; lia
        have hsz : (S w₁).length = w₁.length := by show w₁.toArray.size = _; simp
        refine back9 ?_
        clear back9 G9
        k_steps
        (with_unfolding_all refine' For_cell ?hF ?hk ?hx ?hc ?_ ?hs); (case hF => k_asm); (case hk => rfl); (case hx => rfl); (case hc => rfl); (case hs => (intro _; with_unfolding_all rfl))
        k_steps
        (rename News _ _ _ (_ :: _ :: n₁) => KN)
        have dI2 : I ≠ LR + 1 + 1 := Nat.ne_of_gt hIcs
        have hmN : ∀ p ∈ (LR + 1 + 1, os) :: off (LR + 1 + 1) ((I, it) :: (LR + 1, oc) :: n₁), p ∈ (I, it) :: (LR + 1, oc) :: n₁ := fun p hp => by
          refine hideGoal fun G9 back9 => ?_
          rcases List.mem_cons.mp hp with rfl | hp
          · refine back9 ?_
            clear back9 G9
            exact .tail _ (.tail _ hcs)
          · refine back9 ?_
            clear back9 G9
            exact off_sub _ hp
        refine iter_rangeC (n := w₁.length) (news := off (LR + 1 + 1) ((I, it) :: (LR + 1, oc) :: n₁)) (LeftK W wa la (LR + 1) I it oc vs we (Wd.flatMap (leftW W)) w₁ _) (by rfl) (by assumption) (by rw [hsz]; exact rng_small (by lia)) (by rw [hsz]; exact rng_size (by lia)) (by k_asm) (fun p hp => KN p (hmN p hp)) hos off_ne ⟨⟨lvs, e, mem_off (.tail _ (.tail _ hla)) dla2, by simpa using hlv, mem_off (.tail _ (.head _)) (Nat.ne_of_lt (Nat.lt_succ_self _)), mem_off (.head _) dI2, mem_off (.tail _ (.tail _ hwa)) dwa2, rfl⟩⟩ ?turn2 ?done2
        case turn2 =>
          intro i t₂ m₂ n₂ I₂ it₂ oc₂ h₂ tk₂ hin hI₂ hcI₂ x9 hoff₂ hoc₂ F₂ N₂
          refine hideGoal fun G9 back9 => ?_
          obtain ⟨lvs₂, e₂, hla₂, hlv₂, hcw₂, hit₂, hwa₂, rfl⟩ := x9
          refine back9 ?_
          clear back9 G9
          k_steps
          unfold Stop
          have hvl : vs.length ≤ 1000 := by rw [strs_len hs, List.length_map]; lia
          refine compT_src (ep := we) (fun r ys => ∃ Wr' acc, StrsAre r (Wr'.map S) ∧ (∀ w ∈ Wr', okWord w = true) ∧ StrsAre ys acc ∧ acc ++ (Wr'.filter (likeK (i + 1) w₁)).map (fun one => S (one.drop (i + 1))) = (W.filter (likeK (i + 1) w₁)).map (fun one => S (one.drop (i + 1)))) (by rfl) (by k_asm) (by k_asm) (by k_mem) hvl ⟨W, [], hs, hW, .nil, rfl⟩ ?_ ?_
          · intro v r ys I₃ oI C oC D m₃ hX tkX E' hJ hC hx FX NX offX ne
            refine hideGoal fun G9 back9 => ?_
            obtain ⟨Wr', acc, hr', hok', hy', he'⟩ := hJ
            cases Wr' with
            | nil => cases hr'
            | cons one Wr' =>
              cases hr' with
              | cons _ t₃ hr' =>
                have oone := hok' one (List.mem_cons_self ..)
                simp only [okWord, Bool.and_eq_true, decide_eq_true_eq] at oone
                have hoz : (S one).length ≤ 1000 := by show one.toArray.size ≤ 1000; simp; lia
                have hj : (1 + (i : Int)) = ((i + 1 : Nat) : Int) := by lia
                refine back9 ?_
                clear back9 G9
                k_steps
                · (rename (_ == _) = true => he)
                  rw [like_test (k := i + 1) hj ok₁.1.1 oone.1.1] at he
                  refine PEnd.intro (by k_asm) (by assumption) (fun _ h => h) ⟨Wr', acc ++ [S (one.drop (i + 1))], hr', fun w hw => hok' w (List.mem_cons_of_mem _ hw), ?_, ?_⟩
                  · rw [slice_dropA (k := i + 1) hj]; exact strs_snoc hy'
                  · rw [← he', List.filter_cons_of_pos he]; simp
                · (rename (_ == _) = false => he)
                  rw [like_test (k := i + 1) hj ok₁.1.1 oone.1.1] at he
                  refine PEnd.intro (by k_asm) (by assumption) (fun _ h => h) ⟨Wr', acc, hr', fun w hw => hok' w (List.mem_cons_of_mem _ hw), hy', ?_⟩
                  rw [← he', List.filter_cons_of_neg (by simp [he])]
          · intro g ys hJ
            refine hideGoal fun G9 back9 => ?_
            obtain ⟨Wr', acc, hr', hok', hy', he'⟩ := hJ
            cases Wr' with
            | cons => cases hr'
            | nil =>
            rw [List.filter_nil, List.map_nil, List.append_nil] at he'
            have hmem : w₁ ∈ W.filter (likeK (i + 1) w₁) := List.mem_filter.mpr ⟨by rw [hWW]; simp, by simp [likeK]⟩
            have hlk : leftK W w₁ (i + 1) = acc.headD (S []) := by rw [he']; rfl
            cases hy' with
            | nil =>
              refine back9 ?_
              clear back9 G9
              exfalso
              have := congrArg List.length he'
              have h2 := List.length_pos_of_mem hmem
              simp only [List.length_nil, List.length_map] at this
              lia
            | cons y t₅ hy' =>
              have hly : leftK W w₁ (i + 1) = y := hlk
              have hlv3 : lvs₂.length ≤ 900 := by
                rw [strs_len hlv₂, List.length_append, List.length_map, List.length_range]
                have h7 := left_len (fun w hw => hW w (by rw [hWW]; exact List.mem_append_left _ hw)) (W' := W) (Wd := Wd)
                have h8 : Wd.length ≤ W.length := by rw [hWW]; simp
                lia
              have hlv4 : lvs₂.length ≤ 1000 := by lia
              have hIla₂ := hI₂ _ (mem_off (.tail _ (.tail _ hla)) dla2)
              refine back9 ?_
              clear back9 G9
              k_steps
              (rename News _ _ _ (setAt _ _ _) => KN)
              have dI₂ : I₂ ≠ la := Nat.ne_of_gt hIla₂
              refine EndF.intro (by k_asm) KN (mem_setAt_of (.tail _ (.head _)) dI₂) (mem_setAt_of (.tail _ (.tail _ (.head _))) (Ne.symm dla2)) trivial ⟨lvs₂ ++ [.str y t₅], _, mem_off (mem_off (mem_setAt_self (.tail _ (.tail _ (.tail _ hla₂)))) dla2) (Ne.symm dI₂), ?st, ?m1, ?m2, ?m3, rfl⟩
              case st =>
                rw [List.range_succ, List.map_append, ← List.append_assoc, List.map_cons, List.map_nil, hly]
                exact strs_snoc hlv₂
              case m1 => exact mem_off (mem_off (mem_setAt_of (.tail _ (.tail _ (.tail _ hcw₂))) (Ne.symm dla1)) (hoff₂ _ hcw₂).2) (hoff₂ _ hcw₂).1
              case m2 => exact mem_off (mem_off (mem_setAt_of (.tail _ (.tail _ (.tail _ hit₂))) (Nat.ne_of_gt hIla)) (hoff₂ _ hit₂).2) (hoff₂ _ hit₂).1
              case m3 => exact mem_off (mem_off (mem_setAt_of (.tail _ (.tail _ (.tail _ hwa₂))) dwl) (hoff₂ _ hwa₂).2) (hoff₂ _ hwa₂).1
        case done2 =>
          intro m₂ n₂ oc₂ v₂ h₂ tk₂ x9 hoc₂ hoff₂ F₂ N₂
          refine hideGoal fun G9 back9 => ?_
          obtain ⟨lvs₂, e₂, hla₂, hlv₂, hcw₂, hit₂, hwa₂, rfl⟩ := x9
          refine back9 ?_
          clear back9 G9
          k_steps
          (rename News _ _ _ ((_, oc₂) :: n₂) => KN)
          have dwI : I ≠ LR + 1 := Nat.ne_of_gt hcI
          have hIwa := hI _ (.tail _ (.tail _ (.head _)))
          refine EndF.intro (by k_asm) KN (.tail _ hit₂) (.tail _ hcw₂) (.inr ⟨_, mem_off (mem_off (.tail _ hwa₂) dwa1) (Nat.ne_of_lt hIwa), rfl, _, rfl⟩)
            ⟨Wd ++ [w₁], Wr, lvs₂, e₂, oc₂, v₂, by rw [hWW]; simp, hsr, mem_off (mem_off (.tail _ hla₂) dla1) (Nat.ne_of_lt hIla), ?st, mem_off (mem_off (.head _) (Nat.ne_of_gt (Nat.lt_succ_self _))) (Ne.symm dI2), hoc₂, mem_off (mem_off (.tail _ hwa₂) dwa1) (Nat.ne_of_lt hIwa), rfl⟩
          case st =>
            rw [List.flatMap_append, List.flatMap_cons, List.flatMap_nil, List.append_nil]
            exact hlv₂
  case done =>
    intro m₂ n₂ oc₂ v₂ h₂ tk₂ x9 hoc₂ hoff₂ F₂ N₂
    refine hideGoal fun G9 back9 => ?_
    obtain ⟨Wd, Wr, lvs, e, os, v₁, hWW, hsr, hla, hlv, hcs, hos, hwa, rfl⟩ := x9
    cases Wr with
    | cons => cases hsr
    | nil =>
    rw [List.append_nil] at hWW
    subst hWW
    refine back9 ?_
    clear back9 G9
    k_steps
    exact hret _ _ _ _ (by assumption) (by assumption) (by assumption) ⟨la, lvs, e, rfl, hlv, .tail _ hla, .tail _ hwa⟩
end Mine88
end

-- part P31a
section
open PySem PySem.W PyProof.Rows PySem.Spec PySem.Calls PySem.Builtin.Str
set_option maxRecDepth 100000
set_option maxHeartbeats 8000000
namespace Mine88
theorem LTurn.intro {h₀ : Heap} {L : Addr} {s₁ : Shared} {I : Addr} {it : Obj} {J : Fm → Led → Prop} {Q : Flow → Shared → Prop} {h' : Heap} {tk : Nat} {m' : Fm} {all : Led} (F : Fr h₀ L h' m') (N : News h₀ L h' all) (hI : (I, it) ∈ all) (hJ : J m' (off I all)) :
    LTurn h₀ L s₁ I it J Q .next { s₁ with heap := h', toks := tk } := ⟨h', tk, m', off I all, rfl, F, news_off N hI, off_ne, hJ⟩
theorem join_fits {u : PySem.Str} (h : u.length ≤ 1000) : JoinOk (PySem.Str.ofString "/") (signs u) = true := joinOk_signsN (N := 1000) (S := 1) h (by decide) (by decide)
theorem S_app (a b : List Nat) : S a ++ S b = S (a ++ b) := by
  show (⟨a.toArray ++ b.toArray⟩ : PySem.Str) = ⟨(a ++ b).toArray⟩
  congr 1
  simp
theorem str_assoc (a b c : PySem.Str) : a ++ b ++ c = a ++ (b ++ c) := by
  obtain ⟨a⟩ := a; obtain ⟨b⟩ := b; obtain ⟨c⟩ := c
  show (⟨a ++ b ++ c⟩ : PySem.Str) = ⟨a ++ (b ++ c)⟩
  rw [Array.append_assoc]
theorem signs_S (u : List Nat) : signs (S u) = u.map fun n => S [n] := by
  unfold signs
  show List.map _ u.toArray.toList = _
  simp
theorem join_path : ∀ (u : List Nat) (c : Nat), S [47] ++ PySem.Str.join (S [47]) ((c :: u).map fun n => S [n]) = S ((c :: u).flatMap fun c => [47, c])
  | [], c => by
    show S [47] ++ S [c] = _
    rw [S_app]; rfl
  | d :: r, c => by
    have ih := join_path r d
    show S [47] ++ (S [c] ++ S [47] ++ PySem.Str.join (S [47]) ((d :: r).map fun n => S [n])) = _
    rw [str_assoc, ih, S_app, S_app]
    simp
theorem path_joined (u : List Nat) : PySem.Str.ofString "/" ++ Txt.join (PySem.Str.ofString "/") (signs (S u)) = path u := by
  unfold Txt.join
  rw [StrLaws.glued_eq_join, slash_S, signs_S]
  cases u with
  | nil => rfl
  | cons c r =>
    rw [join_path]
    unfold path pathL
    rw [if_neg (by simp)]
theorem join_len {u : List Nat} (hu : u.length ≤ 10) : (Txt.join (PySem.Str.ofString "/") (signs (S u))).length ≤ 1000 := by
  have e := congrArg PySem.Str.length (path_joined u)
  have h1 : (PySem.Str.ofString "/" ++ Txt.join (PySem.Str.ofString "/") (signs (S u))).length = (PySem.Str.ofString "/").length + (Txt.join (PySem.Str.ofString "/") (signs (S u))).length := by
    show ((PySem.Str.ofString "/").cps ++ _).size = _
    rw [Array.size_append]; rfl
  have h2 := path_size hu
  lia
theorem listIn {h₀ h : Heap} {L l : Addr} {vs : List Value} {e : Nat} {n : List (Addr × Obj)} (N : News h₀ L h n) (hm : (l, listO vs e) ∈ n) : h.IsList l vs.toArray := ⟨_, (N _ hm).1, rfl, _, rfl⟩
noncomputable def lowS (u : List Nat) : PySem.Str := S (u.map lowC)
noncomputable def frontAdd (k : Nat) (acc : List (List Nat)) (w : List Nat) : List (List Nat) := if k ≤ w.length ∧ (acc.any fun x => x.map lowC == (w.take k).map lowC) = false then acc ++ [w.take k] else acc
noncomputable def frontsAll (W : List (List Nat)) : List (List Nat) := (List.range 4).foldl (fun acc i => W.foldl (frontAdd (i + 1)) acc) []
theorem any_low (acc : List (List Nat)) (u : List Nat) : (acc.map lowS).any (fun x => x == lowS u) = acc.any fun x => x.map lowC == u.map lowC := by
  rw [List.any_map]
  congr 1
  funext x
  exact S_beq _ _
end Mine88
end

-- part P32a
section
open PySem PySem.W PyProof.Rows PySem.Spec PySem.Calls PyProof.V
set_option maxRecDepth 100000
set_option maxHeartbeats 8000000
namespace Mine88
open PyProof.Rows.LCg
theorem strs_lay : ∀ ns : List PySem.Str, (∀ x ∈ ns, PyData.strOk x = true) → PyData.canLayAll0 (ns.map PyData.str) = true
  | [], _ => rfl
  | x :: r, h => by
    have h1 := h x (List.mem_cons_self ..)
    have h2 := strs_lay r fun y hy => h y (List.mem_cons_of_mem _ hy)
    simp [PyData.canLayAll0, PyData.canLay0, h1, h2]
theorem okS {l : List Nat} (h : l.all isSign = true) : PyData.strOk (S l) = true := by
  refine Array.all_eq_true'.mpr fun c hc => ?_
  have hc' : c ∈ l := by simpa using hc
  have := sign_cases (List.all_eq_true.mp h c hc')
  have : c < 0x110000 := by lia
  simpa using this
theorem strs_depth : ∀ ns : List PySem.Str, PyData.depthAll (ns.map PyData.str) = 0
  | [] => rfl
  | _ :: r => by simp [PyData.depthAll, PyData.depth, strs_depth r]
theorem strs_shaped (ns : List PySem.Str) (h : ∀ x ∈ ns, PyData.strOk x = true) : SeqAt.shaped (.list (ns.map PyData.str)) = true := by
  simp [SeqAt.shaped, PyData.canLay0, PyData.depth, strs_lay ns h, strs_depth]
theorem strs_sameAll : ∀ ns ms : List PySem.Str, PySem.Spec.sameAll (ns.map PyData.str) (ms.map PyData.str) = decide (ns = ms)
  | [], [] => by simp [PySem.Spec.sameAll]
  | [], _ :: _ => by simp [PySem.Spec.sameAll]
  | _ :: _, [] => by simp [PySem.Spec.sameAll]
  | a :: r, b :: t => by
    simp only [List.map_cons, PySem.Spec.sameAll, PySem.Spec.same, strs_sameAll r t]
    by_cases h : a = b <;> by_cases h' : r = t <;> simp [h, h']
theorem ne_strs {prog : PySem.Program} {w : World} {A : Around} {E : Value → Shared → Prop} {s : Shared} {a b : Addr} {xs ys : List Value} {ns ms : List PySem.Str} {Q : Value → Shared → Prop} (ha : s.heap.IsList a xs.toArray) (hb : s.heap.IsList b ys.toArray) (hi : StrsAre xs ns) (hj : StrsAre ys ms) (k1 : ∀ x ∈ ns, PyData.strOk x = true) (k2 : ∀ x ∈ ms, PyData.strOk x = true) (hu : A.units + 64 < cLine) (h : Q (.bool (!decide (ns = ms))) s) :
    wpAny (model prog w) A (compareOp .NotEq (.ref a) (.ref b)) Q E s :=
  ne_dataH_same (reads_newData ha hi.carried) (reads_newData hb hj.carried) (strs_shaped _ k1) (strs_shaped _ k2) hu (SeqAt.noMix_of_shape (.list .str) rfl _ _ (list_map_has fun _ => rfl) (list_map_has fun _ => rfl)) (by
    have : PySem.Spec.same (.list (ns.map PyData.str)) (.list (ms.map PyData.str)) = decide (ns = ms) := by simp only [PySem.Spec.same]; exact strs_sameAll ns ms
    rw [this]; exact h)
theorem compC_src {prog : PySem.Program} {w : World} {A : Around} {s : Shared} {env : Env} {h₀ : Heap} {L : Addr} {m : Fm} {ifs : List PySem.Expr} {elt : PySem.Expr} {x : PySem.Str} {scope : Scope} {cl : List (PySem.Str × Addr)} {Fin : Shared → List Value → Led → Prop} {ax : Addr} {vs : List Value} {ep : Nat} {news : Led} (J : List Value → List Value → Led → Prop)
    (hh : A.handled = none) (F : Fr h₀ L s.heap m) (N : News h₀ L s.heap news) (hm : (ax, listO vs ep) ∈ news) (hsz : vs.length ≤ 1000) (h0 : J vs [] news)
    (turn : ∀ v r ys news I oI C oC D c oc h tk (E' : Value → Shared → Prop), J (v :: r) ys news → NsObj oC (fun _ => none) → oc.data = .cell (some v) → Fr h₀ L h m → News h₀ L h ((I, oI) :: (C, oC) :: (D, lst ys) :: (c, oc) :: news) → Off3 I C D news → Off1 c news → Apart6 I C D c →
      wpAny (model prog w) A (TestsT ifs (compEnvC scope ((x, c) :: cl) C env)) (fun ok s' => if ok = true then
        wpAny (model prog w) A (eval elt (compEnvC scope ((x, c) :: cl) C env)) (EndC h₀ L m { s with heap := h, toks := tk } I oI C oC D (lst ys) c oc (SrcAt h₀ ax vs.toArray) (fun y n' => J r (ys ++ [y]) n')) E' s'
        else EndC h₀ L m { s with heap := h, toks := tk } I oI C oC D (lst ys) c oc (SrcAt h₀ ax vs.toArray) (fun _ n' => J r ys n') Value.none s') E' { s with heap := h, toks := tk })
    (fin : ∀ g ys news, J [] ys news → Fin { s with heap := g } ys news) : SrcC prog w A h₀ L m env ifs elt x scope cl Fin (.ref ax) s := by
  refine SrcC.ledger hh F N hm (by rw [List.size_toArray, sizeLine_eq]; lia) fun g => ?_
  have all : ∀ (k i : Nat) (ys : List Value) (news : Led), i + k = vs.length → J (vs.drop i) ys news → RestC prog w A h₀ L m env ifs elt x scope cl { s with heap := g } (SrcAt h₀ ax vs.toArray) (fun i v => vs.toArray[i]? = some v) (Fin { s with heap := g }) k i ys news := by
    intro k
    induction k with
    | zero =>
      intro i ys news hi hJ
      rw [List.drop_eq_nil_of_le (by lia)] at hJ
      exact fin g ys news hJ
    | succ k ih =>
      intro i ys news hi hJ
      have hlt : i < vs.length := by lia
      rw [List.drop_eq_getElem_cons hlt] at hJ
      intro v I oI C oC D c oc h tk E' hv hC hoc F' N' off o1 ne
      have e : vs[i] = v := by
        have hv' : vs[i]? = some v := by simpa using hv
        rw [List.getElem?_eq_getElem hlt] at hv'
        exact Option.some.inj hv'
      subst e
      refine wpAny_mono (turn _ _ ys news I oI C oC D c oc h tk E' hJ hC hoc F' N' off o1 ne) (fun ok s' z => ?_) fun _ _ e => e
      split at z
      · rename_i q; rw [if_pos q]
        exact wpAny_mono z (fun y s₂ ⟨h', tk', n', e, F₂, N₂, o2, o3, hS, hJ'⟩ => ⟨h', tk', n', e, F₂, N₂, o2, o3, hS, ih (i + 1) _ n' (by lia) hJ'⟩) fun _ _ e => e
      · rename_i q; rw [if_neg q]
        obtain ⟨h', tk', n', e, F₂, N₂, o2, o3, hS, hJ'⟩ := z
        exact ⟨h', tk', n', e, F₂, N₂, o2, o3, hS, ih (i + 1) _ n' (by lia) hJ'⟩
  exact all vs.toArray.size 0 [] news (by simp) (by simpa using h0)
theorem rng0_small {k : Nat} (hk : k ≤ 8) : Builtin.Range.small 0 ((k : Int) + 1) 1 = true := by
  exact (show ∀ k : Nat, k < 9 → Builtin.Range.small 0 ((k : Int) + 1) 1 = true by decide +kernel) k (Nat.lt_succ_of_le hk)
theorem rng0_size {k : Nat} (hk : k ≤ 8) : Builtin.Range.rangeSize 0 ((k : Int) + 1) 1 = ((k + 1 : Nat) : Int) := by
  exact (show ∀ k : Nat, k < 9 → Builtin.Range.rangeSize 0 ((k : Int) + 1) 1 = ((k + 1 : Nat) : Int) by decide +kernel) k (Nat.lt_succ_of_le hk)
end Mine88
end

-- part P32
section
open PySem PySem.W PyProof.Rows PySem.Spec PySem.Calls
set_option maxRecDepth 100000
set_option maxHeartbeats 8000000
namespace Mine88
open PyProof.Rows.LCg
noncomputable def beginsK (e w : List Nat) : Bool := w.take e.length == e
noncomputable def endsAll (u : List Nat) : List (List Nat) := (List.range (u.length + 1)).map fun k => u.drop k
noncomputable def endP (W : List (List Nat)) (e : List Nat) : Bool := decide (W.filter (beginsK e) ≠ [])
noncomputable def endsW (W : List (List Nat)) (u : List Nat) : List (List Nat) := (endsAll u).filter (endP W)
theorem begins_test {w e : List Nat} {j : Int} (hj : j = e.length) : (Txt.slice (S w) none (some j) == S e) = beginsK e w := by
  rw [slice_takeA hj, S_beq]; rfl
theorem set_rows_P32 : True := by
  k_with_none
  k_with "call builtin:issubclass" => (k_here; (with_reducible show wpAny _ _ (call (Value.builtin "issubclass") [Value.type "str", Value.ref _]) _ _ _); k_dflt (refine' issub_call ?k1 ?_; (case k1 => exact News.get (by assumption) (by k_mem)); k_whole); intro tk_z)
  k_with "truthy str" => (k_here; (with_reducible show wpAny _ _ (PySem.truthy (Value.str _ _)) _ _ _); (refine' KXt.truthy_pos (K := 1000) ?kxta ?kxtb ?kxtc ?_; (case kxta => assumption); (case kxtb => assumption); (case kxtc => exact Nat.le_of_ble_eq_true rfl)); intro _)
  k_with "call builtin:list.append" => (k_here; (with_reducible show wpAny _ _ (call (Value.builtin _) [Value.ref _, _]) _ _ _); k_dflt (refine' append_in ?k1 ?k2 ?k3 ?k4 ?_; (case k1 => k_asm); (case k2 => k_asm); (case k3 => k_mem); (case k4 => first | assumption | (simp only [List.length_append, List.length_cons, List.length_nil]; omega)); k_whole); intro h'_z F'_z N'_z)
  k_with "SrcLP" => (k_here; refine Stop.out ?_)
  k_with "CompSrc" => (k_here; refine Stop.out ?_)
  k_with "CompSrcT" => (k_here; refine Stop.out ?_)
  k_with "exec For Name Name cons nil" => (k_here; (rename Fr _ _ _ _ => lF'); (with_unfolding_all refine' For_invVF lF' ?k1 ?k2 ?_; (case k1 => exact rfl); (case k2 => exact rfl); k_whole))
  k_with "exec For Name Call cons nil" => (k_here; (rename Fr _ _ _ _ => lF'); (with_unfolding_all refine' For_invVF lF' ?k1 ?k2 ?_; (case k1 => exact rfl); (case k2 => exact rfl); k_whole))
  k_with "pyIter ref" => ((with_reducible show wpAny _ _ (pyIter (Value.ref _)) (fun it s₂ => LoopAtV _ _ _ _ _ _ _ _ _ it s₂) _ _); k_here; refine Stop.out ?_)
  k_with "LeaveK" => (k_here; k_dflt (refine' leaveR ?k0 ?k1 ?k2 ?_; (case k0 => assumption); (case k1 => k_asm); (case k2 => k_asm); k_whole); intro kF_z kN_z kK_z)
  k_with "call builtin:str.join" => (k_here; (with_reducible show wpAny _ _ (call (Value.builtin "str.join") [Value.str _ _, Value.str _ _]) _ _ _); k_dflt (refine' join_strF ?k1 ?k2 ?k3 ?k4 ?_; (case k1 => exact rfl); (case k2 => k_asm); (case k3 => k_asm); (case k4 => exact join_fits (by with_reducible assumption)); k_whole); intro h'_z k'_z t'_z F'_z N'_z)
  k_with "compareOp NotIn str ref" => (k_here; (with_reducible show wpAny _ _ (compareOp CmpOp.NotIn (Value.str _ _) (Value.ref _)) _ _ _); k_dflt (refine' notin_list_strs ?k1 ?k2 ?_; (case k1 => exact listIn (by k_asm) (by k_mem)); (case k2 => assumption); k_whole))
  k_with "eval ListComp" => (k_here; (with_reducible show wpAny _ _ (eval (PySem.Expr.ListComp _ [⟨PySem.Expr.Name _ _, _, _, _⟩] _ _) _) _ _ _); k_dflt (refine' ListComp_C ?F ?cl ?cf ?pc ?kd ?nm ?hx ?_ ?hs; (case cl => with_unfolding_all rfl); (case cf => exact fun _ => rfl); (case pc => exact fun _ => rfl); (case F => k_asm); (case kd => rfl); (case nm => decide); (case hx => rfl); (case hs => (intro _; rfl))))
  k_with "exec Assign cons ListComp" => (k_here; (with_reducible show wpAny _ _ (exec (Stmt.Assign [PySem.Expr.Name _ _] (PySem.Expr.ListComp _ [⟨PySem.Expr.Name _ _, _, _, _⟩] _ _) _) _) _ _ _); k_dflt (refine' Assign_ListComp_C ?F ?le ?sw ?cl ?cf ?pc ?kd ?nm ?hx ?hy ?hp ?_ ?hs; (case cl => with_unfolding_all rfl); (case cf => exact fun _ => rfl); (case pc => exact fun _ => rfl); (case F => k_asm); (case le => rfl); (case sw => with_unfolding_all rfl); (case kd => rfl); (case nm => decide); (case hx => rfl); (case hy => rfl); (case hp => rfl); (case hs => (intro _; rfl))))
  k_with "compareOp NotEq ref ref" => (k_here; (with_reducible show wpAny _ _ (compareOp CmpOp.NotEq (Value.ref _) (Value.ref _)) _ _ _); refine Stop.out ?_)
  trivial
theorem ends_c (w : World) (dp un : Nat) (rest : List (Addr × Obj)) (wa : Addr) (u : List Nat) (tu : Tok) (vs : List Value) (we : Nat) (W : List (List Nat)) (hs : StrsAre vs (W.map S)) (hW : ∀ w ∈ W, okWord w = true) (hl : W.length ≤ 3) (hu8 : u.length ≤ 8) (hul : u.all isLetter = true) :
    SiteR w dp un 60 600 349 [.str (S u) tu, .ref wa] [] [(wa, listO vs we)] rest (fun v n' => ∃ D ys e, v = .ref D ∧ StrsAre ys ((endsW W u).map path) ∧ (D, listO ys e) ∈ n' ∧ (wa, listO vs we) ∈ n') := by
  unfold SiteR
  k_fill
  intro gd cn csn csg csc csm aa ccd cl outer A₀ base h₀ L m s Q E p loose mean mg mb B F X N hR T₀ hdd hu hret
  refine wpAny_call ?_
  k_dflt (refine' code_defCR hR ?k1 ?k2 ?k3 ?k4 ?k5 ?kA ?kF ?kK ?k6 ?k7 ?k8 ?k9 ?kB ?kD ?_ ?c2 ?c3 ?c4; (case kA => exact rfl); (case kF => exact rfl); (case kK => exact rfl); (case k1 => k_asm); (case k2 => k_asm); (case k3 => k_asm); (case k4 => k_asm); (case k5 => k_asm); (case k6 => k_is); (case k7 => k_is); (case k8 => k_room); (case k9 => first | exact BindsTo.of_eq rfl | exact binds_K (by k_in) rfl (by k_is) rfl rfl rfl); (case c2 => exact rfl); (case c3 => exact rfl); (case c4 => exact rfl); (case kB => exact rfl); (case kD => decide +kernel); k_whole)
  intro gR LR hR1 tkR cellsR hg FG F₁ N₁ YR B₁ X₁ T₁ lR
  (try k_lt lR)
  have hYR := CellsAre.two YR
  obtain ⟨oc1, oc2, hER, dc1, dc2⟩ := hYR
  subst hER
  clear YR
  (try simp only [List.cons_append, List.nil_append] at N₁)
  (try dsimp only)
  have huz : (S u).length ≤ 1000 := by show u.toArray.size ≤ 1000; simp; lia
  have husz : (S u).length = u.length := by show u.toArray.size = _; simp
  have dwd : oc1.data = .cell (some (.ref wa)) := dc1
  have drd : oc2.data = .cell (some (.str (S u) tu)) := dc2
  clear dc1 dc2
  k_steps
  unfold Stop
  refine compU_range (n := u.length + 1) (fun i ys => StrsAre ys ((List.range i).map fun k => S (u.drop k))) (by rfl) (by k_asm) (by k_asm) (by assumption) (by rw [husz]; exact rng0_small hu8) (by rw [husz]; exact rng0_size hu8) (by lia) .nil ?_ ?_
  · intro i tk₀ ys I oI C oC D m₂ hX tkX E' hi hJ hC hx FX NX off ne
    have hj : (0 + (i : Int)) = ((i : Nat) : Int) := by lia
    k_steps
    refine PEnd.intro (by k_asm) (by assumption) (fun _ h => h) ?_
    rw [slice_dropA (k := i) hj, List.range_succ, List.map_append]
    exact strs_snoc hJ
  · intro g ys hJ
    have hysl : ys.length = u.length + 1 := by rw [strs_len hJ]; simp
    k_steps
    rename_i De hh1 tk1 FD ND oD
    have hys2 : StrsAre ys ((endsAll u).map S) := by unfold endsAll; rw [List.map_map]; exact hJ
    have hvl : vs.length ≤ 1000 := by rw [strs_len hs, List.length_map]; lia
    refine compC_src (vs := ys) (ep := ys.length) (fun r zs n => ∃ Er acc, StrsAre r (Er.map S) ∧ (∀ e ∈ Er, e.length ≤ 8 ∧ e.all isLetter = true) ∧ StrsAre zs (acc.map path) ∧ acc ++ Er.filter (endP W) = endsW W u ∧ n = [(De, lst ys), (LR + 1 + 1, oc1), (LR + 1, oc2), (wa, listO vs we)]) (by rfl) (by k_asm) (by k_asm) (.head _) (by lia) ⟨endsAll u, [], hys2, ?okk, .nil, rfl, rfl⟩ ?turn ?done
    case turn =>
      intro v r ys' news I oI C oC D c oc h tk E' x9 hC hoc F₂ N₂ off2 o2 ap
      refine hideGoal fun G9 back9 => ?_
      obtain ⟨Er, acc, hr, hok, hy, he, rfl⟩ := x9
      cases Er with
      | nil => cases hr
      | cons e Er =>
        cases hr with
        | cons _ t₃ hr =>
        have hoke := hok e (List.mem_cons_self ..)
        have hez : (S e).length ≤ 1000 := by show e.toArray.size ≤ 1000; simp; lia
        have hezs : ((S e).length : Int) = e.length := by show ((e.toArray.size : Nat) : Int) = _; simp
        have hjl : (Txt.join (PySem.Str.ofString "/") (signs (S e))).length ≤ 1000 := join_len (by lia)
        refine back9 ?_
        clear back9 G9
        refine wpAny_tests_one ?_
        k_steps
        unfold Stop
        refine compT_src (ep := we) (fun r zs => ∃ Wr acc2, StrsAre r (Wr.map S) ∧ (∀ w ∈ Wr, okWord w = true) ∧ StrsAre zs (acc2.map S) ∧ acc2 ++ Wr.filter (beginsK e) = W.filter (beginsK e)) (by rfl) (by k_asm) (by k_asm) (by k_mem) hvl ⟨W, [], hs, hW, .nil, rfl⟩ ?_ ?_
        · intro v r zs I₃ oI₃ C₃ oC₃ D₃ m₃ hX tkX E₃ hJ₃ hC₃ hx₃ FX NX offX ne₃
          refine hideGoal fun G9 back9 => ?_
          obtain ⟨Wr, acc2, hr2, hok2, hz2, he2⟩ := hJ₃
          cases Wr with
          | nil => cases hr2
          | cons w₁ Wr =>
            cases hr2 with
            | cons _ t₅ hr2 =>
            have ok₁ := hok2 w₁ (List.mem_cons_self ..)
            simp only [okWord, Bool.and_eq_true, decide_eq_true_eq] at ok₁
            have hwz : (S w₁).length ≤ 1000 := by show w₁.toArray.size ≤ 1000; simp; lia
            refine back9 ?_
            clear back9 G9
            k_steps
            · (rename (_ == _) = true => hq)
              rw [begins_test hezs] at hq
              refine PEnd.intro (by k_asm) (by assumption) (fun _ h => h) ⟨Wr, acc2 ++ [w₁], hr2, fun w hw => hok2 w (List.mem_cons_of_mem _ hw), ?_, ?_⟩
              · rw [List.map_append]; exact strs_snoc hz2
              · rw [← he2, List.filter_cons_of_pos hq]; simp
            · (rename (_ == _) = false => hq)
              rw [begins_test hezs] at hq
              refine PEnd.intro (by k_asm) (by assumption) (fun _ h => h) ⟨Wr, acc2, hr2, fun w hw => hok2 w (List.mem_cons_of_mem _ hw), hz2, ?_⟩
              rw [← he2, List.filter_cons_of_neg (by simp [hq])]
        · intro g zs hJ₃
          refine hideGoal fun G9 back9 => ?_
          obtain ⟨Wr, acc2, hr2, hok2, hz2, he2⟩ := hJ₃
          cases Wr with
          | cons => cases hr2
          | nil =>
          rw [List.filter_nil, List.append_nil] at he2
          subst he2
          have hokz : ∀ x ∈ (W.filter (beginsK e)).map S, PyData.strOk x = true := by
            intro x hx
            obtain ⟨w, hw, rfl⟩ := List.mem_map.mp hx
            have ok₁ := hW w (List.mem_filter.mp hw).1
            simp only [okWord, Bool.and_eq_true, decide_eq_true_eq] at ok₁
            exact okS (signs_of_letters ok₁.1.1)
          refine back9 ?_
          clear back9 G9
          k_steps
          unfold Stop
          refine ne_strs (xs := zs) (ys := []) (ms := []) (listIn (by k_asm) (by k_mem)) (listIn (by k_asm) (by k_mem)) hz2 .nil hokz (by simp) (by first | ktr_units | (show un + 64 < cLine; lia)) ?_
          have hep : endP W e = !decide ((W.filter (beginsK e)).map S = []) := by
            unfold endP
            cases W.filter (beginsK e) <;> simp
          refine hideGoal fun G9 back9 => ?_
          cases hb : endP W e with
          | true =>
            refine back9 ?_
            clear back9 G9
            rw [← hep, hb]
            k_steps
            rw [path_joined]
            refine EndC.intro (by k_asm) (by assumption) _ ?sub off2 o2 (.inr ⟨_, .head _, rfl, _, rfl⟩) ⟨Er, acc ++ [e], hr, fun x hx => hok x (List.mem_cons_of_mem _ hx), ?s1, ?s2, rfl⟩
            case sub => intro p hp; first | exact hp | exact .tail _ hp | exact .tail _ (.tail _ hp) | exact .tail _ (.tail _ (.tail _ hp))
            case s1 => rw [List.map_append]; exact strs_snoc hy
            case s2 => rw [← he, List.filter_cons_of_pos hb]; simp
          | false =>
            refine back9 ?_
            clear back9 G9
            rw [← hep, hb]
            k_steps
            refine EndC.intro (by k_asm) (by assumption) _ ?sub off2 o2 (.inr ⟨_, .head _, rfl, _, rfl⟩) ⟨Er, acc, hr, fun x hx => hok x (List.mem_cons_of_mem _ hx), hy, ?s2, rfl⟩
            case sub => intro p hp; first | exact hp | exact .tail _ hp | exact .tail _ (.tail _ hp) | exact .tail _ (.tail _ (.tail _ hp))
            case s2 => rw [← he, List.filter_cons_of_neg (by simp [hb])]
    case okk =>
      intro e he
      refine hideGoal fun G9 back9 => ?_
      obtain ⟨k, hk, rfl⟩ := List.mem_map.mp he
      refine back9 ?_
      clear back9 G9
      exact ⟨by simp; lia, List.all_eq_true.mpr fun c hc => List.all_eq_true.mp hul c (List.mem_of_mem_drop hc)⟩
    case done =>
      intro g zs n x9
      refine hideGoal fun G9 back9 => ?_
      obtain ⟨Er, acc, hr, hok, hy, he, rfl⟩ := x9
      cases Er with
      | cons => cases hr
      | nil =>
      rw [List.filter_nil, List.append_nil] at he
      subst he
      refine back9 ?_
      clear back9 G9
      k_steps
      exact hret _ _ _ _ (by assumption) (by assumption) (by assumption) ⟨_, zs, _, rfl, hy, .head _, .tail _ (.tail _ (.tail _ (.tail _ (.head _))))⟩
end Mine88
end

-- part P33a
section
open PySem PySem.W PyProof.Rows PySem.Spec PySem.Calls
set_option maxRecDepth 100000
set_option maxHeartbeats 8000000
namespace Mine88
/-- a while whose ledger may change -/
inductive WT (h₀ : Heap) (L : Addr) (s : Shared) (J : Nat → Fm → Led → Prop) (n : Nat) (s₂ : Shared) : Prop
  | mk : ∀ n' m' l' h tk, n' < n → J n' m' l' → s₂ = { s with heap := h, toks := tk } → Fr h₀ L h m' → News h₀ L h l' → WT h₀ L s J n s₂
noncomputable def WTurnL (h₀ : Heap) (L : Addr) (s : Shared) (J : Nat → Fm → Led → Prop) (n : Nat) (Q : Flow → Shared → Prop) (f : Flow) (s₂ : Shared) : Prop :=
  match f with
  | .brk => Q .next s₂
  | .ret v => Q (.ret v) s₂
  | _ => WT h₀ L s J n s₂
theorem while_led {prog : PySem.Program} {w : World} {A : Around} {E : Value → Shared → Prop} {s : Shared} {env : Env} {test : PySem.Expr} {body orelse : List Stmt} {Q : Flow → Shared → Prop} {h₀ : Heap}
    (J : Nat → Fm → Led → Prop) (hE : PassesOwn (model prog w) A env E)
    (turn : ∀ n m l h tk, J n m l → Fr h₀ env.locals h m → News h₀ env.locals h l →
      wpAny (model prog w) A (isTrue test env (eval test env)) (fun b s₂ => WhlIf b (wpAny (model prog w) A (execs body env) (WTurnL h₀ env.locals s J n Q) E s₂) (wpAny (model prog w) A (execs orelse env) Q E s₂)) E { s with heap := h, toks := tk }) :
    ∀ n m l h tk, J n m l → Fr h₀ env.locals h m → News h₀ env.locals h l → WhlRest prog w A E env test body orelse Q 0 { s with heap := h, toks := tk } := by
  intro n
  induction n using Nat.strongRecOn with
  | ind n ih =>
    intro m l h tk hJ F N
    refine whl_turn (k := 0) hE (wpAny_mono (turn n m l h tk hJ F N) (fun b s₂ z => ?_) fun _ _ e => e)
    unfold WhlIf at z ⊢
    split at z
    · rename_i hb; rw [if_pos hb]
      refine wpAny_mono z (fun f s₃ q => ?_) fun _ _ e => e
      cases f with
      | brk => exact q
      | ret v => exact q
      | next => obtain ⟨n', m', l', h', tk', hn, hJ', rfl, F', N'⟩ := q; exact ih n' hn m' l' h' tk' hJ' F' N'
      | cont => obtain ⟨n', m', l', h', tk', hn, hJ', rfl, F', N'⟩ := q; exact ih n' hn m' l' h' tk' hJ' F' N'
    · rename_i hb; rw [if_neg hb]; exact z
theorem while_startL {prog : PySem.Program} {w : World} {A : Around} {E : Value → Shared → Prop} {s : Shared} {env : Env} {test : PySem.Expr} {body orelse : List Stmt} {Q : Flow → Shared → Prop} {h₀ : Heap} {pos : Pos}
    (J : Nat → Fm → Led → Prop) {n : Nat} {m : Fm} {l : Led} (F : Fr h₀ env.locals s.heap m) (N : News h₀ env.locals s.heap l) (hJ : J n m l) (hE : PassesOwn (model prog w) A env E)
    (turn : ∀ n m l h tk, J n m l → Fr h₀ env.locals h m → News h₀ env.locals h l →
      wpAny (model prog w) A (isTrue test env (eval test env)) (fun b s₂ => WhlIf b (wpAny (model prog w) A (execs body env) (WTurnL h₀ env.locals s J n Q) E s₂) (wpAny (model prog w) A (execs orelse env) Q E s₂)) E { s with heap := h, toks := tk }) :
    wpAny (model prog w) A (exec (.While test body orelse pos) env) Q E s :=
  whl_start 0 (while_led (s := s) J hE turn n m l s.heap s.toks hJ F N)
end Mine88
end

-- part P34
section
open PySem PySem.W PyProof.Rows PySem.Spec PySem.Calls
set_option maxRecDepth 100000
set_option maxHeartbeats 8000000
namespace Mine88
open PyProof.Rows.LCg
/-! comprehensions over zip of two lists -/
noncomputable def ZAt (prog : PySem.Program) (w : World) (A : Around) (h₀ : Heap) (L : Addr) (m : Fm) (env : Env) (elt : PySem.Expr) (a b : PySem.Str) (scope : Scope) (cl : List (PySem.Str × Addr)) (Fin : Shared → List Value → Led → Prop) (it : Value) (s₂ : Shared) : Prop :=
  ∃ (I : Addr) (fp wr : List Addr) (n : Nat) (St : Nat → Heap → Prop) (Mid : Nat → Addr → Heap → Prop) (xs ys : List Value) (news : Led) (J : Nat → List Value → Prop),
    it = .ref I ∧ WalksU prog w A I fp wr n (fun i vals => ∃ x y, xs.toArray[i]? = some x ∧ ys.toArray[i]? = some y ∧ vals = #[x, y]) St Mid ∧ n ≤ sizeLine ∧ L ∉ fp ∧ (∀ b ∈ fp, b < s₂.heap.objs.size) ∧ (∀ b ∈ wr, h₀.get? b = none) ∧ (∀ p ∈ news, p.1 ∉ wr) ∧ St 0 s₂.heap ∧ A.handled = none ∧
    Fr h₀ L s₂.heap m ∧ News h₀ L s₂.heap news ∧ J 0 [] ∧
    (∀ i x y zs own C oC D m₂ h tk (E' : Value → Shared → Prop), i < n → xs[i]? = some x → ys[i]? = some y → J i zs → NsObj oC m₂ → m₂ a = some x → m₂ b = some y → Fr h₀ L h m → News h₀ L h ((C, oC) :: (D, lst zs) :: (own ++ news)) →
      wpAny (model prog w) A (eval elt (compEnvC scope cl C env)) (PEnd h₀ L m { s₂ with heap := h, toks := tk } ((C, oC) :: (D, lst zs) :: (own ++ news)) (fun v => J (i + 1) (zs ++ [v]))) E' { s₂ with heap := h, toks := tk }) ∧
    ∀ zs, J n zs → Fin s₂ zs news
section
variable {prog : PySem.Program} {w : World} {A : Around} {E : Value → Shared → Prop} {s : Shared} {h₀ : Heap} {L : Addr} {m : Fm} {env : Env}
theorem block_Z {elt iter : PySem.Expr} {a b : PySem.Str} {pa pb tp : Pos} {kk} {scope : Scope} {cl : List (PySem.Str × Addr)} {pos : Pos} {s₂ : Shared} {I : Addr} {fp wr : List Addr} {n : Nat} {St : Nat → Heap → Prop} {Mid : Nat → Addr → Heap → Prop} {xs ys : List Value} {news : Led} {J : Nat → List Value → Prop}
    {RR : Value → Addr → Result → Shared → Prop}
    (W : WalksU prog w A I fp wr n (fun i vals => ∃ x y, xs.toArray[i]? = some x ∧ ys.toArray[i]? = some y ∧ vals = #[x, y]) St Mid) (hsz : n ≤ sizeLine) (hLf : L ∉ fp) (hfp : ∀ b ∈ fp, b < s₂.heap.objs.size) (hwr : ∀ b ∈ wr, h₀.get? b = none) (hnw : ∀ p ∈ news, p.1 ∉ wr) (hst : St 0 s₂.heap) (hh : A.handled = none)
    (hcell : ∀ y ∈ scope.names, y.2 ≠ .cell) (hkind : scope.kind = .function) (ha : scope.names.lookup a = some .local) (hb : scope.names.lookup b = some .local) (hab : a ≠ b)
    (F : Fr h₀ L s₂.heap m) (N : News h₀ L s₂.heap news) (h0 : J 0 [])
    (turn : ∀ i x y zs own C oC D m₂ h tk (E' : Value → Shared → Prop), i < n → xs[i]? = some x → ys[i]? = some y → J i zs → NsObj oC m₂ → m₂ a = some x → m₂ b = some y → Fr h₀ L h m → News h₀ L h ((C, oC) :: (D, lst zs) :: (own ++ news)) →
      wpAny (model prog w) A (eval elt (compEnvC scope cl C env)) (PEnd h₀ L m { s₂ with heap := h, toks := tk } ((C, oC) :: (D, lst zs) :: (own ++ news)) (fun v => J (i + 1) (zs ++ [v]))) E' { s₂ with heap := h, toks := tk })
    (hRR : ∀ D C h tk m' zs, Fr h₀ L h m → News h₀ L h ((D, lst zs) :: news) → Off1 D news → h.Ns C m' → h₀.get? C = none → h₀.get? D = none → C ≠ L → D ≠ L → C ≠ D → (∀ p ∈ news, p.1 ≠ C) → J n zs → RR (.ref D) C (.ok .next) { s₂ with heap := h, toks := tk }) :
    wpAny (model prog w) A (newList []) (fun acc s₃ => wpAny (model prog w) A (newFunctionEnv scope env.globals cl [] env.qual none .none (some env)) (fun cenv s₄ =>
      codeAny (model prog w) A (.compStart (.ListComp elt [⟨.Tuple [.Name a pa, .Name b pb] kk tp, iter, [], 0⟩] scope pos) 0 (.ref I) acc { cenv with scope := relabel scope env }) (RR acc cenv.locals) s₄) E s₃) E s₂ := by
  refine wpAny_newObj_type (wpAny_newFunctionEnv hcell (by intro y hy; simp at hy) (fun h₁ hns₁ hsb₁ => ?_) hkind)
  dsimp only at hns₁ hsb₁ ⊢
  generalize hH2 : s₂.heap.push { cls := .type "list", dict := none, data := .seq ([] : List Value).toArray } = H2 at hns₁ hsb₁ ⊢
  have hC : H2.objs.size = s₂.heap.objs.size + 1 := by rw [← hH2, Heap.size_push]
  have hDC : s₂.heap.objs.size ≠ H2.objs.size := by rw [hC]; exact Nat.ne_of_lt (Nat.lt_succ_self _)
  have below : ∀ b, b < s₂.heap.objs.size → b ≠ H2.objs.size ∧ b ≠ s₂.heap.objs.size := fun b hb => ⟨by rw [hC]; exact Nat.ne_of_lt (Nat.lt_succ_of_lt hb), Nat.ne_of_lt hb⟩
  have hDf : s₂.heap.objs.size ∉ fp := fun hm => Nat.lt_irrefl _ (hfp _ hm)
  have hCf : H2.objs.size ∉ fp := fun hm => by have := hfp _ hm; rw [hC] at this; exact Nat.lt_irrefl _ (Nat.lt_of_succ_lt this)
  have hDw : s₂.heap.objs.size ∉ wr := fun hm => hDf (W.sub _ hm)
  have hCw : H2.objs.size ∉ wr := fun hm => hCf (W.sub _ hm)
  have hLw : L ∉ wr := fun hm => hLf (W.sub _ hm)
  have old : ∀ b o, s₂.heap.get? b = some o → h₁.get? b = some o := fun b o e => hsb₁.extBut b o (below b (Heap.lt_size e)).1 (Heap.get?_push_of_some _ (hH2 ▸ Heap.get?_push_of_some _ e))
  have hacc : h₁.get? s₂.heap.objs.size = some (lst []) := hsb₁.extBut _ _ hDC (Heap.get?_push_of_some _ (hH2 ▸ Heap.get?_push_size _ rfl))
  have hst₁ : St 0 h₁ := W.frame _ _ _ hst fun b _ o e => old b o e
  have fresh : ∀ a, s₂.heap.objs.size ≤ a → s₂.heap.get? a = none := fun a ha => by
    cases e : s₂.heap.get? a with
    | none => rfl
    | some o' => exact absurd (Heap.lt_size e) (Nat.not_lt.mpr ha)
  have fresh₀ : ∀ a, s₂.heap.objs.size ≤ a → h₀.get? a = none := fun a ha => by
    cases e : h₀.get? a with
    | none => rfl
    | some o' => have := F.keep a o' e; rw [fresh a ha] at this; cases this
  have hD₀ : h₀.get? s₂.heap.objs.size = none := fresh₀ _ (Nat.le_refl _)
  have hC₀ : h₀.get? H2.objs.size = none := fresh₀ _ (by rw [hC]; exact Nat.le_succ _)
  have hLlt : L < s₂.heap.objs.size := F.ns.lt
  have hDL : s₂.heap.objs.size ≠ L := Ne.symm (below L hLlt).2
  have hCL : H2.objs.size ≠ L := Ne.symm (below L hLlt).1
  have offD : ∀ p ∈ news, p.1 ≠ s₂.heap.objs.size := fun p hp => (below _ (Heap.lt_size (N p hp).1)).2
  have offC : ∀ p ∈ news, p.1 ≠ H2.objs.size := fun p hp => (below _ (Heap.lt_size (N p hp).1)).1
  have off1D : Off1 s₂.heap.objs.size news := by
    have : ∀ l : Led, (∀ p ∈ l, p.1 ≠ s₂.heap.objs.size) → Off1 s₂.heap.objs.size l := by
      intro l
      induction l with
      | nil => intro _; trivial
      | cons q r ih => intro h; exact ⟨h q (List.mem_cons_self ..), ih fun p hp => h p (List.mem_cons_of_mem _ hp)⟩
    exact this news offD
  have oldK : ∀ b o, h₀.get? b = some o → b ∉ wr := fun b o e hb => by rw [hwr b hb] at e; cases e
  have loop : ∀ s₃ : Shared, s₃ = { s₂ with heap := h₁, toks := s₂.toks + ([] : List (PySem.Str × Value)).length } →
      codeAny (model prog w) A (.compLoop (.ListComp elt [⟨.Tuple [.Name a pa, .Name b pb] kk tp, iter, [], 0⟩] scope pos) 0 (.ref I) (.ref s₂.heap.objs.size) (compEnvC scope cl H2.objs.size env))
        (RR (.ref s₂.heap.objs.size) H2.objs.size) s₃ := by
    rintro s₃ rfl
    refine kcp_loop
      (fun k s' => ∃ h' tk i zs m', s' = { s₂ with heap := h', toks := tk } ∧ i ≤ n ∧ k = n + 1 - i ∧ zs.length ≤ i ∧ St i h' ∧ Fr h₀ L h' m ∧ h'.Ns H2.objs.size m' ∧ News h₀ L h' ((s₂.heap.objs.size, lst zs) :: news) ∧ J i zs) ?_ (n + 1)
      ⟨h₁, _, 0, [], _, rfl, Nat.zero_le _, rfl, Nat.le_refl _, hst₁, F.keeps old, hns₁, fun p hp => ?_, h0⟩
    · rintro k s' ⟨h', tk, i, zs, m', rfl, hi, rfl, hyl, hst', F', hn', N', hJ⟩
      have next : ∀ h₁ : Heap, (∀ b o, b ∉ wr → h'.get? b = some o → h₁.get? b = some o) → Fr h₀ L h₁ m ∧ News h₀ L h₁ ((s₂.heap.objs.size, lst zs) :: news) ∧ h₁.Ns H2.objs.size m' := fun h₁ hk₁ =>
        ⟨⟨F'.ns.at' fun o e => hk₁ _ o hLw e, fun b o e => hk₁ b o (oldK b o e) (F'.keep b o e), F'.above⟩, fun p hp => ⟨hk₁ _ _ (by
          rcases List.mem_cons.mp hp with rfl | hp
          · exact hDw
          · exact hnw p hp) (N' p hp).1, (N' p hp).2⟩, hn'.at' fun o e => hk₁ _ o hCw e⟩
      by_cases hlt : i < n
      · refine W.item i _ _ _ hlt hst' fun T vals h₂ tk₂ hP hT hm hk₂ => ?_
        obtain ⟨x, y, hx, hy, rfl⟩ := hP
        refine W.go _ _ _ i T _ _ _ hm fun h₃ hst₃ hk₃ => ?_
        have hT₃ : h₃.IsTuple T #[x, y] := hT.at fun o e => hk₃ T o (W.apart i T _ hm) e
        obtain ⟨F₃, N₃, hn₃⟩ := next h₃ fun b o hb e => hk₃ b o hb (hk₂ b o hb e)
        refine kcp_assign (m := m') hh hT₃ (lookup_relabel_local ha) (lookup_relabel_local hb) (by simp [compEnvC, relabel, hkind]) hn₃ fun h₄ tk₄ hn₄ hk₄ => ?_
        have hst₄ : St (i + 1) h₄ := W.frame _ _ _ hst₃ fun b hb o e => hk₄ b o (fun q => hCf (by have q' : b = H2.objs.size := q; rw [← q']; exact hb)) e
        obtain ⟨oC, heC, hoC⟩ := ns_obj hn₄
        have F₄ : Fr h₀ L h₄ m := ⟨F₃.ns.at' fun o e => hk₄ _ o (Ne.symm hCL) e, fun b o e => hk₄ b o (fun q => by rw [show b = H2.objs.size from q, hC₀] at e; cases e) (F₃.keep b o e), F₃.above⟩
        have Nown : News h₀ L h₄ (PyProof.Rows.ownOf h₀ fp h₄) := news_ownOf hLf
        have N₄ : News h₀ L h₄ ((H2.objs.size, oC) :: (s₂.heap.objs.size, lst zs) :: (PyProof.Rows.ownOf h₀ fp h₄ ++ news)) := fun p hp => by
          rcases List.mem_cons.mp hp with rfl | hp
          · exact ⟨heC, hCL, hC₀⟩
          · rcases List.mem_cons.mp hp with rfl | hp
            · have z := N₃ _ (List.mem_cons_self ..)
              exact ⟨hk₄ _ _ hDC z.1, z.2⟩
            · rcases List.mem_append.mp hp with hp | hp
              · exact Nown p hp
              · have z := N₃ _ (List.mem_cons_of_mem _ hp)
                exact ⟨hk₄ _ _ (offC p hp) z.1, z.2⟩
        refine wpAny_mono (turn i x y zs _ H2.objs.size oC s₂.heap.objs.size _ h₄ _ _ hlt (by simpa using hx) (by simpa using hy) hJ hoC (by simp [hab]) (by simp) F₄ N₄) (fun v s₄ h₄' => ?_) fun _ _ e => e
        obtain ⟨h₅, tk₅, rfl, F₅, N₅, hJ₅⟩ := h₄'
        have zC := (N₅ (H2.objs.size, oC) List.mem_cons_self).1
        have zD := (N₅ (s₂.heap.objs.size, lst zs) (List.mem_cons_of_mem _ List.mem_cons_self)).1
        have N₅' : News h₀ L h₅ news := fun p hp => N₅ p (List.mem_cons_of_mem _ (List.mem_cons_of_mem _ (List.mem_append_right _ hp)))
        have hst₅ : St (i + 1) h₅ := by
          refine W.frame _ _ _ hst₄ fun b hb o e => ?_
          cases hn : h₀.get? b with
          | some o₀ =>
            have : o₀ = o := by have q := F₄.keep b o₀ hn; rw [e] at q; exact (Option.some.inj q).symm
            exact this ▸ F₅.keep b o₀ hn
          | none => exact (N₅ _ (List.mem_cons_of_mem _ (List.mem_cons_of_mem _ (List.mem_append_left _ (mem_ownOf hb hn e))))).1
        refine append_at (hsz := by show zs.toArray.size ≤ sizeLine; rw [List.size_toArray]; exact Nat.le_trans (Nat.le_trans hyl hi) hsz) zD fun h₆ hs₆ hD₆ => ?_
        refine ⟨n + 1 - (i + 1), by omega, h₆, tk₅, i + 1, zs ++ [v], _, rfl, hlt, rfl, by rw [List.length_append, List.length_singleton]; exact Nat.succ_le_succ hyl, W.frame _ _ _ hst₅ fun b hb o e => hs₆.extBut b o (fun q => hDf (q ▸ hb)) e, F₅.change hs₆ hDL hD₀,
          (hoC.ns zC).sameBut hs₆ (Ne.symm hDC), fun p hp => ?_, hJ₅⟩
        rcases List.mem_cons.mp hp with rfl | hp
        · exact ⟨hD₆.trans (congrArg some (lst_snoc zs v)), hDL, hD₀⟩
        · exact ⟨hs₆.extBut _ _ (offD p hp) (N₅' p hp).1, (N₅' p hp).2⟩
      · obtain rfl : i = n := Nat.le_antisymm hi (Nat.not_lt.mp hlt)
        refine W.done _ _ _ hst' fun h₂ tk₂ hk₂ => ?_
        obtain ⟨F₃, N₃, hn₃⟩ := next h₂ hk₂
        exact hRR _ _ h₂ tk₂ _ zs F₃ N₃ off1D hn₃ hC₀ hD₀ hCL hDL (Ne.symm hDC) offC hJ
    · rcases List.mem_cons.mp hp with rfl | hp
      · exact ⟨hacc, hDL, hD₀⟩
      · exact ⟨old _ _ (N p hp).1, (N p hp).2⟩
  exact codeAny_compStart_list (loop _ rfl) (W.self 0 _ _ _ hst₁ (loop _ rfl))
theorem Assign_Zip {elt iter : PySem.Expr} {a b y : PySem.Str} {pa pb tp py : Pos} {kk} {scope : Scope} {cl : List (PySem.Str × Addr)} {pos spos : Pos} {Q : Flow → Shared → Prop} (F₀ : Fr h₀ L s.heap m) (hLe : env.locals = L)
    (hsw : swapsWith (.ListComp elt [⟨.Tuple [.Name a pa, .Name b pb] kk tp, iter, [], 0⟩] scope pos) (some (.Name y py)) spos.line env = pure true)
    (hclos : closureFor scope env = pure cl) (hcell : ∀ z ∈ scope.names, z.2 ≠ .cell) (hkind : scope.kind = .function)
    (hnames : ∀ z ∈ scope.names, z.2 = .local → scope.names.lookup z.1 = some .local) (ha : scope.names.lookup a = some .local) (hb : scope.names.lookup b = some .local) (hab : a ≠ b)
    (hy : env.kindOf y = some .local) (hp : (env.scope.kind == .class || (env.scope.kind == .module && env.locals != env.globals)) = false)
    (h : wpAny (model prog w) A (eval iter env) (fun xv s₁ => wpAny (model prog w) A (pyIter xv) (fun it s₂ => ZAt prog w A h₀ L m env elt a b scope cl (fun s₂ => FinA h₀ L m s₂ y Q) it s₂) E s₁) E s)
    (hs : ∀ x, foldedSetIterable iter env x = pure x := by intro _; rfl) :
    wpAny (model prog w) A (exec (.Assign [.Name y py] (.ListComp elt [⟨.Tuple [.Name a pa, .Name b pb] kk tp, iter, [], 0⟩] scope pos) spos) env) Q E s := by
  subst hLe
  rw [exec_Assign_Name_used _ _ _ _ hsw]
  refine wpAny_bind (wpAny_standAt (wpAny_bind ?_))
  show wpAny _ A (do let _ ← comprehension (.ListComp elt [⟨.Tuple [.Name a pa, .Name b pb] kk tp, iter, [], 0⟩] scope pos) scope env _ (newList []) false (eval iter env) (some (assign (.Name y py) env))) _ _ s
  refine wpAny_bind (wpAny_mono (wpAny_comprehension_free (use := some (assign (.Name y py) env)) (Q := fun _ s' => Q .next s') rfl hs hclos hkind hnames
    (wpAny_mono h (fun xv s₁ h₁ => wpAny_mono h₁ (fun it s₂ h₂ => ?_) fun _ _ e => e) fun _ _ e => e)) (fun _ s' hq => wpAny_pure (wpAny_pure hq)) fun _ _ e => e)
  obtain ⟨I, fp, wr, n, St, Mid, xs, ys, news, J, rfl, W, hsz, hLf, hfp, hwr, hnw, hst, hh, F, N, h0, turn, fin⟩ := h₂
  refine block_Z W hsz hLf hfp hwr hnw hst hh hcell hkind ha hb hab F N h0 turn ?_
  intro D C h' tk m' zs F' N' o1 hn hC₀ hD₀ hCL hDL hCD offC hJ
  show wpAny _ A (assign (.Name y py) env (.ref D)) _ _ _
  refine wpAny_assign_Name (wpAny_storeName_local hy F'.ns (fun h₂ hn₂ hs₂ => ?_) hp)
  have hL₀ : h₀.get? env.locals = none := Heap.get?_none_of_le F'.above
  have F₂ : Fr h₀ env.locals h₂ (fun z => if z = y then some (.ref D) else m z) := ⟨hn₂, fun b o e => hs₂.extBut b o (fun q => by rw [q, hL₀] at e; cases e) (F'.keep b o e), F'.above⟩
  refine ⟨m', hn.sameBut hs₂ hCL, fun h'' hs'' => fin zs hJ D h'' _ (F₂.change hs'' hCL hC₀) (fun p hp => ?_) o1⟩
  have z : h₂.get? p.1 = some p.2 := hs₂.extBut _ _ (N' p hp).2.1 (N' p hp).1
  refine ⟨hs''.extBut _ _ ?_ z, (N' p hp).2⟩
  rcases List.mem_cons.mp hp with rfl | hp
  · exact Ne.symm hCD
  · exact offC p hp
/-- the source: zip of two lists of the ledger -/
theorem zip_src {elt : PySem.Expr} {a b : PySem.Str} {scope : Scope} {cl : List (PySem.Str × Addr)} {Fin : Shared → List Value → Led → Prop} {l1 l2 : Addr} {xs ys : List Value} {n1 n2 : Nat} {news : Led} (J : Nat → List Value → Prop)
    (hh : A.handled = none) (F : Fr h₀ L s.heap m) (N : News h₀ L s.heap news) (hm1 : (l1, listO xs n1) ∈ news) (hm2 : (l2, listO ys n2) ∈ news) (hsz : xs.length ≤ 1000) (h0 : J 0 [])
    (turn : ∀ i x y zs own C oC D m₂ h tk (E' : Value → Shared → Prop), xs[i]? = some x → ys[i]? = some y → J i zs → NsObj oC m₂ → m₂ a = some x → m₂ b = some y → Fr h₀ L h m → News h₀ L h ((C, oC) :: (D, lst zs) :: (own ++ news)) →
      wpAny (model prog w) A (eval elt (compEnvC scope cl C env)) (PEnd h₀ L m { s with heap := h, toks := tk } ((C, oC) :: (D, lst zs) :: (own ++ news)) (fun v => J (i + 1) (zs ++ [v]))) E' { s with heap := h, toks := tk })
    (fin : ∀ g zs, J (min xs.length ys.length) zs → Fin { s with heap := g } zs news) :
    wpAny (model prog w) A (call (.type "zip") [.ref l1, .ref l2]) (fun xv s₁ => wpAny (model prog w) A (pyIter xv) (fun it s₂ => ZAt prog w A h₀ L m env elt a b scope cl Fin it s₂) E s₁) E s := by
  have hax1 := N _ hm1
  have hax2 := N _ hm2
  have hl1 : s.heap.IsList l1 xs.toArray := ⟨_, hax1.1, rfl, n1, rfl⟩
  have hl2 : s.heap.IsList l2 ys.toArray := ⟨_, hax2.1, rfl, n2, rfl⟩
  have hlt1 : l1 < s.heap.objs.size := Heap.lt_size hax1.1
  have hlt2 : l2 < s.heap.objs.size := Heap.lt_size hax2.1
  have hLs : L < s.heap.objs.size := F.ns.lt
  refine call_zip_2 hl1 hl2 fun h' hz hTI hTO hi1 hi2 hsz' hk => ?_
  refine wpAny_pyIter_zip hz ?_
  refine ⟨_, _, _, _, _, _, xs, ys, news, J, rfl, (WalksT.zip2 (prog := prog) (w := w) (A := A) hh _ _ _ _ _ _ _ (ktu_apart _ _ _ hlt1 hlt2) xs.toArray ys.toArray).toU, ?_, ?_, ?_, ?_, ?_, ⟨hz, hTI, ⟨_, _, hTO⟩, hi1, hi2, hl1.at fun o e => hk l1 o e, hl2.at fun o e => hk l2 o e⟩, hh, F.keeps hk, N.grown hk, h0, ?_, ?_⟩
  · rw [sizeLine_eq]
    have : min xs.toArray.size ys.toArray.size ≤ xs.length := by simp; lia
    lia
  · intro hI'
    have hb' : L = s.heap.objs.size + 4 ∨ L = s.heap.objs.size + 2 ∨ L = s.heap.objs.size + 3 ∨ L = s.heap.objs.size ∨ L = s.heap.objs.size + 1 ∨ L = l1 ∨ L = l2 := by simpa using hI'
    have n1 := hax1.2.1
    have n2 := hax2.2.1
    rcases hb' with e | e | e | e | e | e | e
    · exact ktu_ne 4 hLs e
    · exact ktu_ne 2 hLs e
    · exact ktu_ne 3 hLs e
    · exact Nat.ne_of_lt hLs e
    · exact ktu_ne 1 hLs e
    · exact n1 e.symm
    · exact n2 e.symm
  · intro b hb
    have hb' : b = s.heap.objs.size + 4 ∨ b = s.heap.objs.size + 2 ∨ b = s.heap.objs.size + 3 ∨ b = s.heap.objs.size ∨ b = s.heap.objs.size + 1 ∨ b = l1 ∨ b = l2 := by simpa using hb
    have e5 : h'.objs.size = s.heap.objs.size + 5 := hsz'
    have hlt1' : @LT.lt Nat _ l1 s.heap.objs.size := hlt1
    have hlt2' : @LT.lt Nat _ l2 s.heap.objs.size := hlt2
    show @LT.lt Nat _ b h'.objs.size
    rw [e5]
    rcases hb' with e | e | e | e | e | e | e <;> rw [show (b : Nat) = _ from e] <;> lia
  · intro b hb
    have hb' : b = s.heap.objs.size + 4 ∨ b = s.heap.objs.size + 3 ∨ b = s.heap.objs.size ∨ b = s.heap.objs.size + 1 := by simpa using hb
    rcases hb' with rfl | rfl | rfl | rfl
    · exact ktu_new F (Nat.le_add_right _ _)
    · exact ktu_new F (Nat.le_add_right _ _)
    · exact ktu_new F (Nat.le_refl _)
    · exact ktu_new F (Nat.le_add_right _ _)
  · intro p hp hI'
    have hb' : p.1 = s.heap.objs.size + 4 ∨ p.1 = s.heap.objs.size + 3 ∨ p.1 = s.heap.objs.size ∨ p.1 = s.heap.objs.size + 1 := by simpa using hI'
    have hlp := Heap.lt_size (N p hp).1
    rcases hb' with e | e | e | e
    · exact ktu_ne 4 hlp e
    · exact ktu_ne 3 hlp e
    · exact Nat.ne_of_lt hlp e
    · exact ktu_ne 1 hlp e
  · intro i x y zs own C oC D m₂ h tk E' hi hx hy hJ hC ha hb F₁ N₁
    exact turn i x y zs own C oC D m₂ h tk E' hx hy hJ hC ha hb F₁ N₁
  · intro zs hJ
    have e : min xs.toArray.size ys.toArray.size = min xs.length ys.length := by simp
    exact fin h' zs (by rw [← e]; exact hJ)
end
end Mine88
end

-- part P16
section
open PySem PySem.W PyProof.Rows PySem.Spec PySem.Calls
set_option maxRecDepth 100000
set_option maxHeartbeats 8000000
namespace Mine88
/-! the sort keeps the order of equal keys -/
noncomputable def FK (k : Int) (xs : Array Keyed) : List Keyed := xs.toList.filter fun p => numOf p.1 == k
noncomputable def SameF (xs ys : Array Keyed) : Prop := ∀ k, FK k xs = FK k ys
theorem filter_two {P : Keyed → Bool} {a b : Keyed} (h : ¬ (P a = true ∧ P b = true)) : [b, a].filter P = [a, b].filter P := by
  cases ha : P a <;> cases hb : P b <;> simp [ha, hb] <;> (exfalso; exact h ⟨ha, hb⟩)
theorem swap_list {xs : Array Keyed} {i : Nat} (h : i + 1 < xs.size) : (xs.swapIfInBounds (i + 1) i).toList = xs.toList.take i ++ ([xs[i + 1], xs[i]] ++ xs.toList.drop (i + 2)) := by
  apply List.ext_getElem?
  intro k
  rw [Array.getElem?_toList, getElem?_swapIB h (by lia)]
  have hl : (xs.toList.take i).length = i := by simp; lia
  by_cases h1 : k < i
  · rw [if_neg (by lia), if_neg (by lia), List.getElem?_append_left (by lia), List.getElem?_take_of_lt h1, Array.getElem?_toList]
  · rw [List.getElem?_append_right (by lia), hl]
    by_cases h2 : k = i
    · subst h2; rw [if_pos rfl]; simp [h]
    · by_cases h3 : k = i + 1
      · subst h3
        rw [if_neg (by lia), if_pos rfl, show i + 1 - i = 1 by lia]
        have : i < xs.size := by lia
        simp [this]
      · rw [if_neg (by lia), if_neg (by lia), List.getElem?_append_right (by simp; lia)]
        simp only [List.length_cons, List.length_nil]
        rw [List.getElem?_drop, Array.getElem?_toList]
        congr 1; lia
theorem list_split {xs : Array Keyed} {i : Nat} (h : i + 1 < xs.size) : xs.toList = xs.toList.take i ++ ([xs[i], xs[i + 1]] ++ xs.toList.drop (i + 2)) := by
  have e1 := List.drop_eq_getElem_cons (l := xs.toList) (i := i) (by simp; omega)
  have e2 := List.drop_eq_getElem_cons (l := xs.toList) (i := i + 1) (by simp; omega)
  conv => lhs; rw [← List.take_append_drop i xs.toList, e1, e2]
  simp
theorem swap_same {xs : Array Keyed} {i : Nat} (h : i + 1 < xs.size) (hne : K xs i ≠ K xs (i + 1)) : SameF (xs.swapIfInBounds (i + 1) i) xs := by
  intro k
  unfold FK
  rw [swap_list h]
  conv => rhs; rw [list_split h]
  rw [List.filter_append, List.filter_append, List.filter_append, List.filter_append]
  congr 2
  refine filter_two ?_
  rintro ⟨a, b⟩
  apply hne
  have i1 : i < xs.size := by omega
  unfold K
  rw [getElem?_pos xs i i1, getElem?_pos xs (i + 1) h]
  simp only [beq_iff_eq] at a b
  exact a.trans b.symm
theorem bubble_same {xs : Array Keyed} {src : Nat} (hs : src < xs.size) : ∀ d, d ≤ src → (∀ j, src - d ≤ j → j < src → K xs j ≠ K xs src) → SameF (bubble xs src d) xs := by
  intro d
  induction d with
  | zero => intro _ _ k; rfl
  | succ d ih =>
    intro hd hne
    rw [bubble_succ]
    have e : src - d = (src - d - 1) + 1 := by lia
    have h2 : SameF ((bubble xs src d).swapIfInBounds (src - d - 1 + 1) (src - d - 1)) (bubble xs src d) := by
      refine swap_same (by rw [bubble_size]; lia) ?_
      rw [K_bubble hs (by lia), K_bubble hs (by lia), if_neg (by lia), if_neg (by lia), if_pos (by lia)]
      exact hne _ (by lia) (by lia)
    rw [← e] at h2
    intro k
    rw [h2 k]
    exact ih (by lia) (fun j h1 h2 => hne j (by lia) h2) k
section
variable {prog : PySem.Program} {w : World} {A : Around} {E : Value → Shared → Prop} {s : Shared} {a₀ : Array Keyed}
/-- the binary insertion keeps the order of equal keys -/
theorem insert_st {st : SortSt} {n ok : Nat} {Q : Bool → SortSt → Prop} (h0 : IntKeys a₀) (hn : n ≤ a₀.size) (hok : ok ≤ n) (hB : SBase a₀ st) (hF : SameF (arrOf st) a₀) (hs : SortedTo (arrOf st) ok)
    (h : ∀ st', SBase a₀ st' → SameF (arrOf st') a₀ → SortedTo (arrOf st') n → Q true st') : wpS (model prog w) A E s (binarySort' 0 n ok) Q st := by
  rw [binarySort'_eq]
  simp only [Nat.zero_add]
  have start : SortedTo (arrOf st) (min (max ok 1) n) := by
    intro i j hij hj
    by_cases h1 : j < ok
    · exact hs i j hij h1
    · have e : i = j := by lia
      rw [e]; exact Int.le_refl _
  refine wpS_bind (wpS_mono (Q := fun c st' => c = (none, ()) ∧ SBase a₀ st' ∧ SameF (arrOf st') a₀ ∧ SortedTo (arrOf st') n) (wpS_forRange (I := fun k c st' => c = (none, ()) ∧ SBase a₀ st' ∧ SameF (arrOf st') a₀ ∧ SortedTo (arrOf st') (min k n)) ?turn ?last ⟨rfl, hB, hF, start⟩) ?out)
  case out =>
    rintro c st' ⟨rfl, b1, b2, b3⟩
    exact wpS_pure (h st' b1 b2 b3)
  case last =>
    rintro c st' ⟨b0, b1, b2, b3⟩
    have e : min (max (max ok 1) n) n = n := by lia
    rw [e] at b3
    exact ⟨b0, b1, b2, b3⟩
  case turn =>
    rintro k c st' hk1 hk2 ⟨rfl, b1, b2, b3⟩
    have e : min k n = k := by lia
    rw [e] at b3
    have hks : k < (arrOf st').size := by rw [b1.size]; lia
    -- where it goes: all before are at most its key, all from there on are above it
    refine wpS_bind (wpS_mono (Q := fun c st'' => st'' = st' ∧ ∃ l r, c = (none, l, r) ∧ l ≤ k ∧ (∀ i, i < l → K (arrOf st') i ≤ K (arrOf st') k) ∧ ∀ i, l ≤ i → i < k → K (arrOf st') k < K (arrOf st') i)
      (wpS_forRange (I := fun x c st'' => st'' = st' ∧ ∃ l r, c = (none, l, r) ∧ l ≤ r ∧ r ≤ k ∧ r - l ≤ k - x ∧ (∀ i, i < l → K (arrOf st') i ≤ K (arrOf st') k) ∧ ∀ i, r ≤ i → i < k → K (arrOf st') k < K (arrOf st') i) ?half ?found
        ⟨rfl, 0, k, rfl, Nat.zero_le _, Nat.le_refl _, Nat.le_refl _, fun i q => absurd q (Nat.not_lt_zero _), fun i q1 q2 => absurd q2 (Nat.not_lt.mpr q1)⟩) ?move)
    case found =>
      rintro c st'' ⟨rfl, l, r, rfl, q1, q2, q3, q4, q5⟩
      have e : r = l := by lia
      exact ⟨rfl, l, r, rfl, by lia, q4, fun i z => q5 i (by lia)⟩
    case half =>
      rintro x c st'' _ hx ⟨rfl, l, r, rfl, q1, q2, q3, q4, q5⟩
      dsimp only
      by_cases hd : r ≤ l
      · rw [if_pos hd]
        have e : r = l := by lia
        exact wpS_pure ⟨rfl, l, r, rfl, by lia, q4, fun i z => q5 i (by lia)⟩
      · rw [if_neg hd]
        refine wpS_bind (wpS_ltK b1 h0 (by lia) (by lia) ?_)
        by_cases hlt : K (arrOf st'') k < K (arrOf st'') ((l + r) / 2)
        · rw [decide_eq_true hlt]
          exact wpS_pure ⟨rfl, l, (l + r) / 2, rfl, by lia, by lia, by lia, q4, fun i z1 z2 => Int.lt_of_lt_of_le hlt (b3 _ _ z1 z2)⟩
        · rw [decide_eq_false hlt]
          exact wpS_pure ⟨rfl, (l + r) / 2 + 1, r, rfl, by lia, by lia, by lia, fun i z => Int.le_trans (b3 i ((l + r) / 2) (by lia) (by lia)) (Int.not_lt.mp hlt), q5⟩
    case move =>
      rintro c st'' ⟨rfl, l, r, rfl, q1, q2, q3⟩
      show wpS _ _ _ _ (do moveDown' k l; pure (ForInStep.yield (none, ()))) _ _
      rw [moveDown'_eq]
      have e : min (k + 1) n = k + 1 := by lia
      refine wpS_bind (wpS_modify (wpS_pure ⟨rfl, b1.setArr (bubble_perm _ _ _), ?_, ?_⟩))
      · intro z
        show FK z (bubble (arrOf st'') k (k - l)) = _
        rw [bubble_same hks (k - l) (by lia) (fun j z1 z2 => Int.ne_of_gt (q3 j (by lia) z2)) z]
        exact b2 z
      · rw [e]
        intro i j hij hj
        show K (bubble (arrOf st'') k (k - l)) i ≤ K (bubble (arrOf st'') k (k - l)) j
        have hB := fun x => K_bubble hks (show k - l ≤ k by lia) x
        have el : k - (k - l) = l := by lia
        rw [hB i, hB j, el]
        by_cases i1 : i = l <;> by_cases j1 : j = l
        · rw [if_pos i1, if_pos j1]; exact Int.le_refl _
        · rw [if_pos i1, if_neg j1, if_pos (by lia)]; exact Int.le_of_lt (q3 _ (by lia) (by lia))
        · rw [if_neg i1, if_pos j1, if_neg (by lia)]; exact q2 _ (by lia)
        · rw [if_neg i1, if_neg j1]
          by_cases i2 : l < i ∧ i ≤ k <;> by_cases j2 : l < j ∧ j ≤ k
          · rw [if_pos i2, if_pos j2]; exact b3 _ _ (by lia) (by lia)
          · lia
          · rw [if_neg i2, if_pos j2]; exact b3 _ _ (by lia) (by lia)
          · rw [if_neg i2, if_neg j2]; exact b3 _ _ (by lia) (by lia)
/-- the first run, where the first key is the least: nothing moves -/
theorem run_st {st : SortSt} {n : Nat} {Q : Option Nat → SortSt → Prop} (h0 : IntKeys a₀) (hn : n ≤ a₀.size) (h1 : 1 ≤ n) (hB : SBase a₀ st) (hmin : ∀ i, i < n → K (arrOf st) 0 ≤ K (arrOf st) i)
    (h : ∀ m, 1 ≤ m → m ≤ n → SortedTo (arrOf st) m → Q (some m) st) : wpS (model prog w) A E s (countRun' 0 n) Q st := by
  rw [countRun0_eq]
  refine wpS_bind (wpS_ascLoop h0 hn (Nat.le_refl 1) h1 hB (fun i j hij hj => by rw [show i = j by lia]; exact Int.le_refl _) fun m hm1 hm2 hms hor => ?_)
  dsimp only
  by_cases e : m = n
  · rw [if_pos (beq_iff_eq.mpr e)]
    exact wpS_pure (h m hm1 hm2 hms)
  · rw [if_neg (fun z => e (beq_iff_eq.mp z))]
    have hlt := hor.resolve_left e
    have hm0 := hmin m (by lia)
    by_cases hgt : m > 1
    · rw [if_pos hgt]
      refine wpS_bind (wpS_ltK hB h0 (by lia) (by lia) ?_)
      rw [decide_eq_true (Int.lt_of_le_of_lt hm0 hlt)]
      exact wpS_pure (h m hm1 hm2 hms)
    · have e1 : m = 1 := by lia
      rw [e1] at hlt hm0
      exact absurd hm0 (Int.not_le.mpr hlt)
end
end Mine88
end

-- part P17
section
open PySem PySem.W PyProof.Rows PySem.Spec PySem.Calls
set_option maxRecDepth 100000
set_option maxHeartbeats 8000000
namespace Mine88
section
variable {prog : PySem.Program} {w : World} {A : Around} {E : Value → Shared → Prop} {s : Shared} {a₀ : Array Keyed}
noncomputable def EndSt (a₀ : Array Keyed) (st : SortSt) : Prop := (arrOf st).size = a₀.size ∧ SameF (arrOf st) a₀ ∧ failedOf st = none ∧ pendingOf st = #[(0, a₀.size, 0)] ∧ SortedTo (arrOf st) a₀.size
theorem sort_st {st : SortSt} {Q : Unit → SortSt → Prop} (h0 : IntKeys a₀) (hB : SBase a₀ st) (hF : SameF (arrOf st) a₀) (h2 : 2 ≤ a₀.size) (h64 : a₀.size < 64) (hmin : ∀ i, i < a₀.size → K (arrOf st) 0 ≤ K (arrOf st) i)
    (h : ∀ st', (arrOf st').size = a₀.size → SameF (arrOf st') a₀ → failedOf st' = none → SortedTo (arrOf st') a₀.size → Q () st') : wpS (model prog w) A E s sortRuns' Q st := by
  rw [sortRuns'_eq]
  refine wpS_bind (wpS_get ?_)
  dsimp only
  have hmr : minRun' a₀.size a₀.size 0 = a₀.size := by
    cases e : a₀.size with
    | zero => lia
    | succ f => rw [minRun'_succ, if_pos (by lia)]
  simp only [hB.size, hmr]
  have push : ∀ st' : SortSt, SBase a₀ st' → SameF (arrOf st') a₀ → SortedTo (arrOf st') a₀.size → EndSt a₀ (setPending st' ((pendingOf st').push (0, a₀.size, 0))) := by
    intro st' b1 b2 b3
    exact ⟨b1.size, b2, b1.failed, by show (pendingOf st').push _ = _; rw [b1.pend]; rfl, b3⟩
  refine wpS_bind (wpS_mono (Q := fun c st' => c = (none, a₀.size) ∧ EndSt a₀ st')
    (wpS_forRange (I := fun x c st' => (x = 0 ∧ c = (none, 0) ∧ st' = st) ∨ (1 ≤ x ∧ c = (none, a₀.size) ∧ EndSt a₀ st')) ?turn ?last (.inl ⟨rfl, rfl, rfl⟩)) ?rest)
  case last =>
    rintro c st' (⟨z, _⟩ | ⟨_, z⟩)
    · lia
    · exact z
  case turn =>
    rintro x c st' _ hx (⟨rfl, rfl, rfl⟩ | ⟨hx1, rfl, hD⟩)
    · dsimp only
      rw [if_neg (by lia)]
      simp only [Nat.sub_zero, Nat.min_self, Nat.zero_add]
      refine wpS_bind (run_st h0 (Nat.le_refl _) (by lia) hB hmin fun m hm1 hm2 hms => ?_)
      dsimp only
      by_cases hlt : m < a₀.size
      · rw [if_pos hlt]
        refine wpS_bind (wpS_lift (wpAny_rule ⟨rfl, ?_⟩))
        refine wpS_bind (insert_st h0 (Nat.le_refl _) hm2 hB hF hms fun st3 b1 b2 b3 => ?_)
        simp only [Bool.not_true, Bool.false_eq_true, if_false]
        refine wpS_bind (wpS_get ?_)
        have hb : (pendingOf st3).back? = none := by rw [b1.pend]; rfl
        rw [hb]
        dsimp only
        exact wpS_bind (wpS_modify (wpS_pure (.inr ⟨by lia, rfl, push st3 b1 b2 b3⟩)))
      · rw [if_neg hlt]
        have em : m = a₀.size := by lia
        subst em
        refine wpS_bind (wpS_get ?_)
        have hb : (pendingOf st').back? = none := by rw [hB.pend]; rfl
        rw [hb]
        dsimp only
        exact wpS_bind (wpS_modify (wpS_pure (.inr ⟨by lia, rfl, push st' hB hF hms⟩)))
    · dsimp only
      rw [if_pos (Nat.le_refl _)]
      exact wpS_pure ⟨rfl, hD⟩
  case rest =>
    rintro c st' ⟨rfl, hD⟩
    dsimp only
    refine wpS_bind (wpS_mono (Q := fun c st'' => st'' = st' ∧ c = (none, ())) (wpS_forRange (I := fun _ c st'' => st'' = st' ∧ c = (none, ())) ?_ (fun _ _ z => z) ⟨rfl, rfl⟩) ?_)
    · rintro x c st'' _ _ ⟨rfl, rfl⟩
      refine wpS_bind (wpS_get ?_)
      rw [if_pos (by rw [hD.2.2.2.1]; exact Nat.le_refl 1)]
      exact wpS_pure ⟨rfl, rfl⟩
    · rintro c st'' ⟨rfl, rfl⟩
      exact wpS_pure (h _ hD.1 hD.2.1 hD.2.2.1 hD.2.2.2.2)
end
/-- a stable order by keys -/
noncomputable def StOut (kz : List Int) (vs out : List Value) : Prop := ∃ ps : List (Int × Value), out = ps.map Prod.snd ∧ ps.Pairwise (fun p q => p.1 ≤ q.1) ∧ ∀ k, ps.filter (fun p => p.1 == k) = (kz.zip vs).filter fun p => p.1 == k
theorem st_out {keys : Array Value} {vs : List Value} {kz : List Int} (hk : IntsAre keys.toList kz) {xs : Array Keyed} (hF : SameF xs (keys.zip vs.toArray)) (hs : SortedTo xs xs.size) : StOut kz vs (xs.map (·.2)).toList := by
  let g : Keyed → Int × Value := fun p => (numOf p.1, p.2)
  have e2 : (keys.toList.zip vs).map g = kz.zip vs := by
    rw [← hk.nums, List.zip_map_left]
    exact List.map_congr_left fun ⟨x, y⟩ _ => rfl
  refine ⟨xs.toList.map g, ?_, ?_, ?_⟩
  · rw [Array.toList_map, List.map_map]; rfl
  · rw [List.pairwise_iff_getElem]
    intro i j hi hj hij
    have hi' : i < xs.size := by simpa using hi
    have hj' : j < xs.size := by simpa using hj
    have q := hs i j (Nat.le_of_lt hij) hj'
    rw [K_eq hi', K_eq hj'] at q
    simpa [g] using q
  · intro k
    have q := hF k
    unfold FK at q
    rw [ksk_zip] at q
    rw [← e2, List.filter_map, List.filter_map]
    exact congrArg (List.map g) q
section
variable {prog : PySem.Program} {w : World} {A : Around} {E : Value → Shared → Prop} {s : Shared} {h₀ : Heap} {L : Addr} {m : PySem.Str → Option Value} {news : List (Addr × Obj)} {a kS : Addr} {vs : List Value} {kz : List Int} {keys : Array Value} {e e1 : Nat} {P : PySem.Fin → Shared → Prop}
theorem tail_st {st : SortSt} (F : Fr h₀ L s.heap m) (N : News h₀ L s.heap (news ++ [(kS, seqObj "list" keys e), (a, seqObj "list" #[] e1)])) (hka : kS ≠ a) (hnk : ∀ p ∈ news, p.1 ≠ kS) (hna : ∀ p ∈ news, p.1 ≠ a)
    (hk : IntsAre keys.toList kz) (hlen : kz.length = vs.length) (h64 : vs.length < 64) (hsz2 : (arrOf st).size = vs.length) (hF : SameF (arrOf st) (keys.zip vs.toArray)) (hs : SortedTo (arrOf st) (arrOf st).size) (hfl : failedOf st = none)
    (h : ∀ h' tk out c, Fr h₀ L h' m → News h₀ L h' ((a, seqObj "list" out c) :: news) → StOut kz vs out.toList → P (.done (.ret .none)) { s with heap := h', toks := tk }) :
    wpAny (model prog w) A (ksk_tail a false e1 (.ref kS) st) P E s := by
  have nk := N _ (List.mem_append_right news (List.mem_cons_self ..))
  have na := N (a, seqObj "list" #[] e1) (List.mem_append_right news (List.mem_cons_of_mem _ (List.mem_cons_self ..)))
  have hsz : keys.size = vs.length := by
    have := hk.length
    simp only [Array.length_toList] at this
    lia
  let h1 := s.heap.update kS (Obj.mapSeq fun _ => (#[] : Array Value))
  let out := (arrOf st).map (·.2)
  let h2 := h1.update a (Obj.mapSeq fun _ => out)
  have s1 : Heap.SameBut kS s.heap h1 := Heap.SameBut.update ..
  have s2 : Heap.SameBut a h1 h2 := Heap.SameBut.update ..
  have na1 : h1.get? a = some (seqObj "list" #[] e1) := (s1.2 a hka.symm).trans na.1
  have hc : ∃ c, h2.get? a = some (seqObj "list" out c) := ⟨_, get?_update_seq na1 fun _ => out⟩
  obtain ⟨c, hc⟩ := hc
  have N2 : News h₀ L h2 news := ksk_news (ksk_news (fun p hp => N p (List.mem_append_left _ hp)) s1 hnk) s2 hna
  unfold ksk_tail
  try dsimp only
  refine wpAny_bind (listUpdate_at nk.1 rfl ?_ (by rw [hsz, sizeLine_eq]; lia) (Nat.zero_le _))
  refine wpAny_bind (wpAny_letGo (wpAny_bind (seqEpoch_at na1 rfl ?_)))
  refine wpAny_bind (listUpdate_at na1 rfl ?_ (Nat.zero_le _) (by simp only [Bool.false_eq_true, if_false, Array.size_map]; rw [hsz2, sizeLine_eq]; lia))
  rw [hfl]
  simp only [bne_self_eq_false, Bool.false_eq_true, if_false]
  refine wpAny_pure (h h2 _ out c (ksk_fr (ksk_fr F s1 nk.2.1 nk.2.2) s2 na.2.1 na.2.2) ?_ (st_out hk hF hs))
  intro p hp
  rcases List.mem_cons.mp hp with rfl | hp
  · exact ⟨hc, na.2⟩
  · exact N2 p hp
theorem end_st (F : Fr h₀ L s.heap m) (N : News h₀ L s.heap (news ++ [(kS, seqObj "list" keys e), (a, seqObj "list" #[] e1)])) (hka : kS ≠ a) (hnk : ∀ p ∈ news, p.1 ≠ kS) (hna : ∀ p ∈ news, p.1 ≠ a)
    (hk : IntsAre keys.toList kz) (hlen : kz.length = vs.length) (h64 : vs.length < 64) (hmin : ∀ i, i < vs.length → K (keys.zip vs.toArray) 0 ≤ K (keys.zip vs.toArray) i)
    (h : ∀ h' tk out c, Fr h₀ L h' m → News h₀ L h' ((a, seqObj "list" out c) :: news) → StOut kz vs out.toList → P (.done (.ret .none)) { s with heap := h', toks := tk }) :
    wpAny (model prog w) A (ksk_end a false vs.toArray e1 (.ref kS) keys) P E s := by
  have hsz : keys.size = vs.length := by
    have := hk.length
    simp only [Array.length_toList] at this
    lia
  have hz : (keys.zip vs.toArray).size = vs.length := by simp [hsz]
  unfold ksk_end
  try dsimp only
  simp only [Bool.false_eq_true, if_false]
  by_cases h2 : vs.toArray.size < 2
  · rw [if_pos h2, if_pos h2]
    refine wpAny_bind (wpAny_pure ?_)
    rw [StateT.run_pure]
    refine wpAny_bind (wpAny_pure ?_)
    try dsimp only
    refine tail_st (st := SortSt.mk' general' (keys.zip vs.toArray) #[] 7 none) F N hka hnk hna hk hlen h64 hz (fun _ => rfl) ?_ rfl h
    intro i j hij hj
    have hj' : j < (keys.zip vs.toArray).size := hj
    rw [List.size_toArray] at h2
    rw [show i = j by lia]; exact Int.le_refl _
  · rw [if_neg h2, if_neg h2]
    rw [List.size_toArray] at h2
    rw [ksk_kind hk (by lia)]
    refine wpAny_bind (wpAny_pure ?_)
    refine wpAny_bind (wpAny_mono (sort_st (a₀ := keys.zip vs.toArray) (st := SortSt.mk' oneType' (keys.zip vs.toArray) #[] 7 none)
      (Q := fun _ st' => (arrOf st').size = (keys.zip vs.toArray).size ∧ SameF (arrOf st') (keys.zip vs.toArray) ∧ failedOf st' = none ∧ SortedTo (arrOf st') (keys.zip vs.toArray).size)
      (ksk_intKeys hk) ⟨Array.Perm.refl _, rfl, rfl, rfl⟩ (fun _ => rfl) (by lia) (by lia) (by rw [hz]; exact hmin) fun st' z1 z2 z3 z4 => ⟨z1, z2, z3, z4⟩) ?_ fun _ _ z => z)
    rintro ⟨⟨⟩, st'⟩ s' ⟨rfl, z1, z2, z3, z4⟩
    try dsimp only
    exact tail_st F N hka hnk hna hk hlen h64 (z1.trans hz) z2 (by rw [z1]; exact z4) z3 h
theorem rest_st {f : Value} (F : Fr h₀ L s.heap m) (N : News h₀ L s.heap (news ++ [(kS, seqObj "list" #[] 0), (a, seqObj "list" #[] e1)])) (hka : kS ≠ a) (hnk : ∀ p ∈ news, p.1 ≠ kS) (hna : ∀ p ∈ news, p.1 ≠ a)
    (hlen : kz.length = vs.length) (h64 : vs.length < 64) (hmin : ∀ k ∈ kz, kz.headD 0 ≤ k)
    (turn : ∀ (i : Nat) (v : Value) (k : Int), vs[i]? = some v → kz[i]? = some k → ∀ (h : Heap) (tk : Nat) (own : List (Addr × Obj)), Fr h₀ L h m → News h₀ L h (news ++ own) →
      wpAny (model prog w) A (call f [v]) (KskEnd h₀ L m (news ++ own) k { s with heap := h, toks := tk }) (fun _ _ => False) { s with heap := h, toks := tk })
    (h : ∀ h' tk out c, Fr h₀ L h' m → News h₀ L h' ((a, seqObj "list" out c) :: news) → StOut kz vs out.toList → P (.done (.ret .none)) { s with heap := h', toks := tk }) :
    wpAny (model prog w) A (ksk_rest a f false vs.toArray e1 (.ref kS)) P E s := by
  unfold ksk_rest
  refine wpAny_bind (wpAny_rule ?_)
  first
    | rw [List.forIn_toArray]
    | (rw [← Array.forIn_toList]; simp only [List.toList_toArray])
  refine wpAny_bind (ksk_fold (fun i s' => ∃ g tk kA c, s' = { s with heap := g, toks := tk } ∧ IntsAre kA.toList (kz.take i) ∧ Fr h₀ L g m ∧ News h₀ L g (news ++ [(kS, seqObj "list" kA c), (a, seqObj "list" #[] e1)])) vs 0 s
    ⟨s.heap, s.toks, #[], 0, rfl, by simpa using IntsAre.nil, F, N⟩ ?one ?all)
  case one =>
    rintro j x s' hx ⟨g, tk, kA, c, rfl, hk, F', N'⟩
    rw [Nat.zero_add] at hk ⊢
    have hj : j < vs.length := (List.getElem?_eq_some_iff.mp hx).1
    have hkj : kz[j]? = some (kz[j]'(by lia)) := List.getElem?_eq_getElem _
    refine wpAny_bind (wpAny_attempt (wpAny_mono (turn j x _ hx hkj g tk _ F' N') (fun v s'' z => ?_) fun _ _ z => z.elim))
    obtain ⟨g2, tk2, t2, rfl, rfl, F2, N2⟩ := z
    try dsimp only
    have nk := N2 _ (List.mem_append_right news (List.mem_cons_self ..))
    have na := N2 (a, seqObj "list" #[] e1) (List.mem_append_right news (List.mem_cons_of_mem _ (List.mem_cons_self ..)))
    have hz : kA.size ≤ vs.length := by
      have := hk.length
      simp only [Array.length_toList, List.length_take] at this
      lia
    let up : Array Value → Array Value := (·.push (.int (kz[j]'(by lia)) t2))
    have s1 : Heap.SameBut kS g2 (g2.update kS (Obj.mapSeq up)) := Heap.SameBut.update ..
    have hc : ∃ c2, (g2.update kS (Obj.mapSeq up)).get? kS = some (seqObj "list" (up kA) c2) := ⟨_, get?_update_seq nk.1 up⟩
    obtain ⟨c2, hc⟩ := hc
    refine wpAny_bind (listUpdate_at nk.1 rfl ?_ (by rw [sizeLine_eq]; lia) (Nat.le_trans (Nat.le_of_eq (Array.size_push ..)) (by rw [sizeLine_eq]; lia)))
    refine wpAny_pure ⟨rfl, _, _, up kA, c2, rfl, ?_, ksk_fr F2 s1 nk.2.1 nk.2.2, fun p hp => ?_⟩
    · rw [List.take_add_one, hkj]
      show IntsAre (kA.push _).toList (kz.take j ++ [_])
      rw [Array.toList_push]
      exact ksk_snoc hk
    · rcases List.mem_append.mp hp with hp | hp
      · exact ksk_news (fun q hq => N2 q (List.mem_append_left _ hq)) s1 hnk p hp
      · rcases List.mem_cons.mp hp with rfl | hp
        · exact ⟨hc, nk.2⟩
        · rw [List.mem_singleton.mp hp]; exact ⟨(s1.2 a hka.symm).trans na.1, na.2⟩
  case all =>
    rintro s' ⟨g, tk, kA, c, rfl, hk, F', N'⟩
    rw [List.take_of_length_le (by lia)] at hk
    have nk := N' _ (List.mem_append_right news (List.mem_cons_self ..))
    try dsimp only
    refine wpAny_bind (listItems_at nk.1 rfl ?_)
    have hsz : kA.size = vs.length := by
      have := hk.length
      simp only [Array.length_toList] at this
      lia
    refine end_st F' N' hka hnk hna hk hlen h64 ?_ fun h3 tk3 out c3 F3 N3 k3 => h h3 tk3 out c3 F3 N3 k3
    -- the keys as read
    have key : ∀ i, i < vs.length → K (kA.zip vs.toArray) i = kz.getD i 0 := by
      intro i hi
      have hzi : i < (kA.zip vs.toArray).size := by simp; lia
      have hki : i < kz.length := by lia
      unfold K
      rw [getElem?_pos _ i hzi]
      show numOf ((kA.zip vs.toArray)[i]).1 = _
      rw [Array.getElem_zip]
      have e := hk.nums
      have e2 : (kA.toList.map numOf)[i]? = kz[i]? := by rw [e]
      rw [List.getElem?_map, List.getElem?_eq_getElem (by simp; lia), List.getElem?_eq_getElem hki] at e2
      simp only [Option.map_some, Option.some.injEq, Array.getElem_toList] at e2
      rw [List.getD_eq_getElem?_getD, List.getElem?_eq_getElem hki]
      exact e2
    intro i hi
    rw [key i hi, key 0 (by lia)]
    have hki : i < kz.length := by lia
    have hm := hmin (kz[i]) (List.getElem_mem hki)
    rw [List.getD_eq_getElem?_getD, List.getD_eq_getElem?_getD, List.getElem?_eq_getElem hki]
    cases kz with
    | nil => simp at hki
    | cons k r => exact hm
theorem key_st {f : Value} {n : Nat} (F : Fr h₀ L s.heap m) (N : News h₀ L s.heap news) (ho : s.heap.get? a = some (seqObj "list" vs.toArray n)) (haL : a ≠ L) (ha0 : h₀.get? a = none) (hna : ∀ p ∈ news, p.1 ≠ a)
    (hlen : kz.length = vs.length) (h64 : vs.length < 64) (hmin : ∀ k ∈ kz, kz.headD 0 ≤ k)
    (turn : ∀ (i : Nat) (v : Value) (k : Int), vs[i]? = some v → kz[i]? = some k → ∀ (h : Heap) (tk : Nat) (own : List (Addr × Obj)), Fr h₀ L h m → News h₀ L h (news ++ own) →
      wpAny (model prog w) A (call f [v]) (KskEnd h₀ L m (news ++ own) k { s with heap := h, toks := tk }) (fun _ _ => False) { s with heap := h, toks := tk })
    (h : ∀ h' tk out c, Fr h₀ L h' m → News h₀ L h' ((a, seqObj "list" out c) :: news) → StOut kz vs out.toList → P (.done (.ret .none)) { s with heap := h', toks := tk }) :
    wpAny (model prog w) A (ksk_tree a f false) P E s := by
  have ha : a < s.heap.objs.size := Heap.lt_size ho
  let h1 := s.heap.update a (Obj.mapSeq fun _ => (#[] : Array Value))
  have s1 : Heap.SameBut a s.heap h1 := Heap.SameBut.update ..
  have ho1 : ∃ e1, h1.get? a = some (seqObj "list" #[] e1) := ⟨_, get?_update_seq ho fun _ => #[]⟩
  obtain ⟨e1, ho1⟩ := ho1
  have F1 : Fr h₀ L h1 m := ksk_fr F s1 haL ha0
  have N1 : News h₀ L h1 news := ksk_news N s1 hna
  let h2 := h1.push (seqObj "tuple" vs.toArray 0)
  have e2 : h2.objs.size = s.heap.objs.size + 1 := by rw [size_push', Heap.size_update]
  have hL : L < h2.objs.size := (F1.push _).ns.lt
  unfold ksk_tree
  refine wpAny_bind (listItems_at ho rfl ?_)
  refine wpAny_bind (listUpdate_at ho rfl ?_ (by rw [List.size_toArray, sizeLine_eq]; lia) (Nat.zero_le _))
  refine wpAny_bind (seqEpoch_at ho1 rfl ?_)
  refine wpAny_bind (wpAny_newTuple ?_ (by show vs.length ≤ _; rw [sizeLine_eq]; lia))
  refine wpAny_bind (wpAny_newList ?_ (Nat.zero_le _))
  refine wpAny_holding ?_
  refine rest_st (s := { s with heap := h2.push (seqObj "list" #[] 0) }) (kS := h2.objs.size) ((F1.push _).push _) ?_ (by rw [e2]; exact Nat.ne_of_gt (Nat.lt_succ_of_lt ha)) ?_ hna hlen h64 hmin turn h
  · intro p hp
    rcases List.mem_append.mp hp with hp | hp
    · exact ⟨Heap.get?_push_of_some _ (Heap.get?_push_of_some _ (N1 p hp).1), (N1 p hp).2⟩
    · rcases List.mem_cons.mp hp with rfl | hp
      · exact ⟨Heap.get?_push_size _ rfl, Nat.ne_of_gt hL, Heap.get?_none_of_le (Nat.le_trans F.above (Nat.le_of_lt hL))⟩
      · rw [List.mem_singleton.mp hp]
        exact ⟨Heap.get?_push_of_some _ (Heap.get?_push_of_some _ ho1), haL, ha0⟩
  · intro p hp
    have := Heap.lt_size (N p hp).1
    rw [e2]; exact Nat.ne_of_lt (Nat.lt_succ_of_lt this)
end
section
variable {prog : PySem.Program} {w : World} {A : Around} {E : Value → Shared → Prop} {s : Shared} {h₀ : Heap} {L l q : Addr} {m : PySem.Str → Option Value} {news : List (Addr × Obj)} {vs : List Value} {Q : Value → Shared → Prop}
/-- sorted(list, key=f): stable, where the first key is the least -/
theorem sorted_st {kz : List Int} (F : Fr h₀ L s.heap m) (N : News h₀ L s.heap news) (hl : s.heap.IsList l vs.toArray) (hlen : kz.length = vs.length) (h64 : vs.length < 64) (hmin : ∀ k ∈ kz, kz.headD 0 ≤ k)
    (turn : ∀ (i : Nat) (v : Value) (k : Int), vs[i]? = some v → kz[i]? = some k → ∀ (h : Heap) (tk : Nat) (own : List (Addr × Obj)), Fr h₀ L h m → News h₀ L h (news ++ own) →
      wpAny (model prog w) A.in1.in1 (call (.ref q) [v]) (KskEnd h₀ L m (news ++ own) k { s with heap := h, toks := tk }) (fun _ _ => False) { s with heap := h, toks := tk })
    (h : ∀ D h' tk out c, Fr h₀ L h' m → News h₀ L h' ((D, seqObj "list" out c) :: news) → (∀ q ∈ news, q.1 < D) → StOut kz vs out.toList → Q (.ref D) { s with heap := h', toks := tk }) :
    wpAny (model prog w) A (call (.builtin "sorted") [.ref l] [(PySem.Str.ofString "key", .ref q)]) Q E s := by
  refine call_function_entry_kw kind_sorted plain_sorted entry_sorted (ksk_s1 _ _) ?_
  unfold Builtin.«sorted»
  refine wpAny_bind (m := checkCount "sorted" 1 1 _) (wpAny_pure ?_)
  refine wpAny_bind (collect_list hl ?_ (by rw [sizeLine_eq]; lia))
  refine wpAny_bind (wpAny_newList ?_ (by rw [sizeLine_eq]; lia))
  let g1 := (s.heap.push (seqObj "list" #[] 0)).update s.heap.objs.size (Obj.mapSeq (· ++ vs.toArray))
  let g2 := g1.push (seqObj "list" vs.toArray 0)
  have e1 : g1.objs.size = s.heap.objs.size + 1 := by rw [Heap.size_update, size_push']
  have ho : g2.get? (s.heap.objs.size + 1) = some (seqObj "list" vs.toArray 0) := by rw [← e1]; exact Heap.get?_push_size _ rfl
  have keep : ∀ b o, s.heap.get? b = some o → g2.get? b = some o := by
    intro b o z
    have hlt : b < s.heap.objs.size := Heap.lt_size z
    refine Heap.get?_push_of_some _ ?_
    rw [Heap.get?_update_ne _ _ _ _ (Nat.ne_of_lt hlt)]
    exact Heap.get?_push_of_some _ z
  have hL : L < s.heap.objs.size := F.ns.lt
  show wpAny _ _ _ _ _ { s with heap := g2 }
  rw [e1]
  refine wpAny_bind (wpAny_holding (wpAny_call_entry_kw slot_list_sort ⟨_, ho, rfl⟩ entry_list_sort ?body (ksk_l1 _ _)))
  case body =>
    show wpAny (model prog w) A.in1.in1 (Builtin.«list.sort» ⟨[.ref (s.heap.objs.size + 1)], [(PySem.Str.ofString "key", .ref q)]⟩) _ _ _
    rw [ksk_t1]
    refine key_st (s := { s with heap := g2 }) (F.kept keep) (N.grown keep) ho (Nat.ne_of_gt (Nat.lt_succ_of_lt hL)) (Heap.get?_none_of_le (Nat.le_trans F.above (Nat.le_succ_of_le (Nat.le_of_lt hL))))
      (fun p hp => Nat.ne_of_lt (Nat.lt_succ_of_lt (Heap.lt_size (N p hp).1))) hlen h64 hmin turn fun h' tk out c F' N' k' => ⟨_, rfl, ?_⟩
    exact wpAny_pure ⟨_, rfl, h _ h' tk out c F' N' (fun q hq => Nat.lt_succ_of_lt (Heap.lt_size (N q hq).1)) k'⟩
end
end Mine88
end

-- part P17b
section
open PySem PySem.W PyProof.Rows PySem.Spec PySem.Calls
set_option maxRecDepth 100000
set_option maxHeartbeats 8000000
namespace Mine88
/-! the sorted keys as texts -/
theorem strs_at : ∀ {vs : List Value} {ys : List PySem.Str}, StrsAre vs ys → ∀ (i : Nat) (v : Value), vs[i]? = some v → ∃ y t, ys[i]? = some y ∧ v = .str y t
  | _, _, .nil, i, v, h => by simp at h
  | _, _, .cons y t r, 0, v, h => ⟨y, t, rfl, by simpa using h.symm⟩
  | _, _, .cons y t r, i + 1, v, h => by
    have := strs_at r i v (by simpa using h)
    simpa using this
theorem strs_app {as bs : List Value} {xs ys : List PySem.Str} (h : StrsAre as xs) (g : StrsAre bs ys) : StrsAre (as ++ bs) (xs ++ ys) := by
  induction h with
  | nil => exact g
  | cons y t _ ih => exact .cons y t ih
noncomputable def depths (T : Tab) : List Int := T.map fun kv => (kv.1.length : Int)
noncomputable def keysAt (k : Nat) (T : Tab) : List (List Nat) := (T.map (·.1)).filter fun p => p.length == k
noncomputable def sortK (T : Tab) : List (List Nat) := keysAt 1 T ++ (keysAt 2 T ++ (keysAt 3 T ++ keysAt 4 T))
theorem part_above {α : Type} {h : Int} : ∀ {ps : List (Int × α)} {k : Int}, (∀ p ∈ ps, h ≤ p.1) → k < h → ps.filter (fun p => p.1 == k) = []
  | [], _, _, _ => rfl
  | p :: r, k, hp, hk => by
    have h1 := hp p (List.mem_cons_self ..)
    rw [List.filter_cons_of_neg (by simp only [beq_iff_eq]; lia)]
    exact part_above (fun q hq => hp q (List.mem_cons_of_mem _ hq)) hk
theorem parts {α : Type} : ∀ {ps : List (Int × α)}, ps.Pairwise (fun p q => p.1 ≤ q.1) → (∀ p ∈ ps, 1 ≤ p.1 ∧ p.1 ≤ 4) →
    ps = ps.filter (fun p => p.1 == 1) ++ (ps.filter (fun p => p.1 == 2) ++ (ps.filter (fun p => p.1 == 3) ++ ps.filter (fun p => p.1 == 4)))
  | [], _, _ => rfl
  | p :: r, hs, hb => by
    have hr := parts (List.pairwise_cons.mp hs).2 (fun q hq => hb q (List.mem_cons_of_mem _ hq))
    have h1 := hb p (List.mem_cons_self ..)
    have hle := (List.pairwise_cons.mp hs).1
    have cases : p.1 = 1 ∨ p.1 = 2 ∨ p.1 = 3 ∨ p.1 = 4 := by lia
    have em : ∀ k : Int, k < p.1 → r.filter (fun q => q.1 == k) = [] := fun k hk => part_above hle hk
    rcases cases with e | e | e | e
    · simp only [List.filter_cons, e]
      simpa using hr
    · have e1 := em 1 (by lia)
      simp only [List.filter_cons, e, e1] at hr ⊢
      simpa using hr
    · have e1 := em 1 (by lia)
      have e2 := em 2 (by lia)
      simp only [List.filter_cons, e, e1, e2] at hr ⊢
      simpa using hr
    · have e1 := em 1 (by lia)
      have e2 := em 2 (by lia)
      have e3 := em 3 (by lia)
      simp only [List.filter_cons, e, e1, e2, e3] at hr ⊢
      simpa using hr
theorem part_strs (k : Nat) : ∀ {T : Tab} {ys : List Value}, StrsAre ys ((rowsT T).map (·.1)) → StrsAre ((((depths T).zip ys).filter fun p => p.1 == (k : Int)).map Prod.snd) ((keysAt k T).map path)
  | [], _, .nil => .nil
  | kv :: T, _, .cons _ t r => by
    have ih := part_strs k (T := T) r
    unfold depths keysAt at ih ⊢
    simp only [List.map_cons, List.zip_cons_cons, List.filter_cons]
    by_cases h : kv.1.length = k
    · rw [if_pos (by simp [h]), if_pos (by simp [h])]
      exact .cons _ t ih
    · rw [if_neg (by simp only [beq_iff_eq]; lia), if_neg (by simpa using h)]
      exact ih
theorem sorted_strs {T : Tab} {ys out : List Value} (hy : StrsAre ys ((rowsT T).map (·.1))) (hT : ∀ kv ∈ T, 1 ≤ kv.1.length ∧ kv.1.length ≤ 4) (h : StOut (depths T) ys out) : StrsAre out ((sortK T).map path) := by
  obtain ⟨ps, rfl, hs, hf⟩ := h
  have hb : ∀ p ∈ ps, 1 ≤ p.1 ∧ p.1 ≤ 4 := by
    intro p hp
    have h1 : p ∈ ps.filter (fun q => q.1 == p.1) := List.mem_filter.mpr ⟨hp, by simp⟩
    rw [hf] at h1
    have h2 := (List.of_mem_zip (List.mem_filter.mp h1).1).1
    obtain ⟨kv, hk, e⟩ := List.mem_map.mp h2
    have := hT kv hk
    rw [← e]; lia
  rw [parts hs hb, hf, hf, hf, hf]
  unfold sortK
  simp only [List.map_append]
  exact strs_app (part_strs 1 hy) (strs_app (part_strs 2 hy) (strs_app (part_strs 3 hy) (part_strs 4 hy)))
theorem count_path {p : List Nat} (hp : p.all isLetter = true) (h1 : 1 ≤ p.length) (h4 : p.length ≤ 4) : Txt.count (path p) (PySem.Str.ofString "/") = (p.length : Int) := by
  rw [slash_S]
  refine (count_cnt (path p) 47).trans ?_
  show cnt 47 (pathL p) = _
  unfold pathL
  rw [if_neg (by rintro rfl; exact absurd h1 (by decide))]
  clear h1 h4
  induction p with
  | nil => rfl
  | cons c r ih =>
    simp only [List.all_cons, Bool.and_eq_true] at hp
    rw [List.flatMap_cons, cnt_append, ih hp.2, cnt_cons, cnt_cons, cnt_nil, if_pos rfl, if_neg (letter_ne hp.1), List.length_cons]
    omega
/-- the last loop: each key gets the path that a step leads to -/
inductive Fix : Tab → List (List Nat) → Tab → Prop
  | nil {T} : Fix T [] T
  | none {T : Tab} {q c rem T' r n} : q.all isLetter = true → isLetter c = true → q.length ≤ 3 → getT T q = none → Walk T c n none r → r.all isLetter = true → r.length ≤ 10 → Fix (putTab T (q ++ [c]) (path r)) rem T' → Fix T ((q ++ [c]) :: rem) T'
  | some {T : Tab} {q c rem T' f r n} : q.all isLetter = true → isLetter c = true → q.length ≤ 3 → getT T q = some (path f) → Walk T c n (some f) r → r.all isLetter = true → r.length ≤ 10 → Fix (putTab T (q ++ [c]) (path r)) rem T' → Fix T ((q ++ [c]) :: rem) T'
end Mine88
end

-- part P18
section
open PySem PySem.W PyProof.Rows PySem.Spec PySem.Calls
set_option maxRecDepth 100000
set_option maxHeartbeats 8000000
namespace Mine88
theorem putTab_len (T : Tab) (p : List Nat) (v : PySem.Str) : (putTab T p v).length ≤ T.length + 1 := by
  unfold putTab delTab
  have := List.length_filter_le (fun kv : List Nat × PySem.Str => !(kv.1.map lowC == p.map lowC)) T
  simp only [List.length_append, List.length_cons, List.length_nil]
  omega
inductive FixJX (news : Led) (x dx l tl D : Addr) (oD : Obj) (tvs : List Value) (e : Nat) (Tf : Tab) (m₀ : Fm) (r : List Value) (m : Fm) (n : Led) : Prop
  | mk : ∀ rem T u1 u2 u3, StrsAre r (rem.map path) → Fix T rem Tf → TabT n x dx l T → T.length + rem.length ≤ 90 → (m = fun y => if y = nm "sign" then u1 else if y = nm "above" then u2 else if y = nm "node" then u3 else m₀ y) → FixJX news x dx l tl D oD tvs e Tf m₀ r m n
structure FixJ (news : Led) (x dx l tl D : Addr) (oD : Obj) (tvs : List Value) (e : Nat) (Tf : Tab) (m₀ : Fm) (r : List Value) (m : Fm) (n : Led) : Prop where
  ex : FixJX news x dx l tl D oD tvs e Tf m₀ r m n
  tlm : (tl, listO tvs e) ∈ n
  keep : ∀ p ∈ news, p.1 ≠ 327 → p ∈ n
  lpm : (D, oD) ∈ n
  tb7 : ∃ ps, (327, tabObj ps) ∈ n
local macro_rules | `(tactic| k_all) => `(tactic| assumption)
theorem set_rows_P18 : True := by
  k_with_none
  k_with "call builtin:issubclass" => (k_here; (with_reducible show wpAny _ _ (call (Value.builtin "issubclass") [Value.type "str", Value.ref _]) _ _ _); k_dflt (refine' issub_call ?k1 ?_; (case k1 => exact News.get (by assumption) (by k_mem)); k_whole); intro tk_z)
  k_with "truthy str" => (k_here; (with_reducible show wpAny _ _ (PySem.truthy (Value.str _ _)) _ _ _); (refine' KXt.truthy_pos (K := 1000) ?kxta ?kxtb ?kxtc ?_; (case kxta => assumption); (case kxtb => assumption); (case kxtc => exact Nat.le_of_ble_eq_true rfl)); intro _)
  k_with "call builtin:list.append" => (k_here; (with_reducible show wpAny _ _ (call (Value.builtin _) [Value.ref _, _]) _ _ _); k_dflt (refine' append_in ?k1 ?k2 ?k3 ?k4 ?_; (case k1 => k_asm); (case k2 => k_asm); (case k3 => k_mem); (case k4 => first | assumption | (simp only [List.length_append, List.length_cons, List.length_nil]; omega)); k_whole); intro h'_z F'_z N'_z)
  k_with "call ref" => (k_here; (with_reducible show wpAny _ _ (call (Value.ref 306) [Value.str _ _, Value.str _ _] _) _ _ _); refine Stop.out ?_)
  k_with "call ref" => (k_here; (with_reducible show wpAny _ _ (call (Value.ref 306) [Value.str _ _, Value.str _ _] _) _ _ _); k_dflt (refine' site_use ?k1 ?k2 ?k3 ?k4 ?k5 (joinP _ _ _ _ _ _ _ _ ?g1 ?g2 ?g3) ?kd ?ku ?_; (case k1 => k_asm); (case k2 => k_asm); (case k3 => k_asm); (case k4 => k_asm); (case k5 => k_asm); (case g1 => with_reducible assumption); (case g2 => with_reducible assumption); (case g3 => omega);(case kd => k_room); (case ku => k_units); k_whole); intro v9_z h'_z tk9_z n9_z F'_z N'_z hP9; (obtain ⟨e9_z, t9_z, e8_z⟩ := hP9; have e7_z := Eq.symm e9_z; clear e9_z; subst e7_z; subst e8_z); (try dsimp only))
  k_with "call ref" => (k_here; (with_reducible show wpAny _ _ (call (Value.ref 118) [_, Value.str _ _] _) _ _ _); refine Stop.out ?_)
  k_with "call ref" => (k_here; (with_reducible show wpAny _ _ (call (Value.ref 118) [_, Value.str _ _] _) _ _ _); k_dflt (refine' site_use ?k1 ?k2 ?k3 ?k4 ?k5 (getN _ _ _ _ _ _ _ _ _ _ ?g1 ?g2 ?g3 ?g4) ?kd ?ku ?_; (case k1 => k_asm); (case k2 => k_asm); (case k3 => k_asm); (case k4 => k_asm); (case k5 => k_asm); (case g1 => with_reducible assumption); (case g2 => with_reducible assumption); (case g3 => (simp only [List.length_append, List.length_cons, List.length_nil] at *; omega)); (case g4 => with_reducible assumption);(case kd => k_room); (case ku => k_units); k_whole); intro v9_z h'_z tk9_z n9_z F'_z N'_z hP9; (obtain ⟨e9_z, e8_z⟩ := hP9; have e7_z := Eq.symm e9_z; clear e9_z; subst e7_z; subst e8_z); (try dsimp only))
  k_with "call ref" => (k_here; (with_reducible show wpAny _ _ (call (Value.ref 118) [_, Value.str _ _] _) _ _ _); k_dflt (refine' site_use ?k1 ?k2 ?k3 ?k4 ?k5 (getS _ _ _ _ _ _ _ _ _ _ _ ?g1 ?g2 ?g3 ?g4) ?kd ?ku ?_; (case k1 => k_asm); (case k2 => k_asm); (case k3 => k_asm); (case k4 => k_asm); (case k5 => k_asm); (case g1 => with_reducible assumption); (case g2 => with_reducible assumption); (case g3 => (simp only [List.length_append, List.length_cons, List.length_nil] at *; omega)); (case g4 => with_reducible assumption);(case kd => k_room); (case ku => k_units); k_whole); intro v9_z h'_z tk9_z n9_z F'_z N'_z hP9; (obtain ⟨e9_z, t9_z, e8_z⟩ := hP9; have e7_z := Eq.symm e9_z; clear e9_z; subst e7_z; subst e8_z); (try dsimp only))
  k_with "exec For Name Name cons nil" => (k_here; (rename Fr _ _ _ _ => lF'); (with_unfolding_all refine' For_invVF lF' ?k1 ?k2 ?_; (case k1 => exact rfl); (case k2 => exact rfl); k_whole))
  k_with "exec For Name Call cons nil" => (k_here; (rename Fr _ _ _ _ => lF'); (with_unfolding_all refine' For_invVF lF' ?k1 ?k2 ?_; (case k1 => exact rfl); (case k2 => exact rfl); k_whole))
  k_with "pyIter ref" => ((with_reducible show wpAny _ _ (pyIter (Value.ref _)) (fun it s₂ => LoopAtV _ _ _ _ _ _ _ _ _ it s₂) _ _); k_here; refine Stop.out ?_)
  k_with "call ref" => (k_here; (with_reducible show wpAny _ _ (call (Value.ref 161) _ _) _ _ _); refine Stop.out ?_)
  k_with "call ref" => (k_here; (with_reducible show wpAny _ _ (call (Value.ref 84) _ _) _ _ _); refine Stop.out ?_)
  k_with "call ref" => (k_here; (with_reducible show wpAny _ _ (call (Value.ref 325) _ _) _ _ _); refine Stop.out ?_)
  k_with "call ref" => (k_here; (with_reducible show wpAny _ _ (call (Value.ref 313) _ _) _ _ _); refine Stop.out ?_)
  k_with "call ref" => (k_here; (with_reducible show wpAny _ _ (call (Value.ref 123) _ _) _ _ _); refine Stop.out ?_)
  k_with "call builtin:sorted" => (k_here; refine Stop.out ?_)
  trivial
theorem tree_c (w : World) (dp un : Nat) (news : List (Addr × Obj)) (wa : Addr) (vs : List Value) (we : Nat) (W : List (List Nat)) (hw : (wa, listO vs we) ∈ news) (h327 : (327, tabObj #[]) ∈ news) (hs : StrsAre vs (W.map S)) (hW : ∀ w ∈ W, okWord w = true) (hWl : W.length ≤ 3)
    (Tf : Tab) (hT0 : ∀ kv ∈ (treeAll W ([], [])).1, okWord kv.1 = true) (hmin : ∀ k ∈ depths (treeAll W ([], [])).1, (depths (treeAll W ([], [])).1).headD 0 ≤ k) (hfix : Fix (treeAll W ([], [])).1 (sortK (treeAll W ([], [])).1) Tf) (hsk : (sortK (treeAll W ([], [])).1).length ≤ 40) :
    Site w dp un 100 900 332 [.ref wa] [] news (fun v _ n' => ∃ D x dx l tl tvs e e2, v = .ref D ∧ (D, tup2 (.ref x) (.ref tl) e2) ∈ n' ∧ TabT n' x dx l Tf ∧ (tl, listO tvs e) ∈ n' ∧ StrsAre tvs (treeAll W ([], [])).2 ∧ (∀ p ∈ news, p.1 ≠ 327 → p ∈ n') ∧ ∃ ps, (327, tabObj ps) ∈ n') := by
  unfold Site
  k_fill
  intro gd cn csn csg csc csm a ccd cl outer A₀ base h₀ L m s Q E p loose mean mg mb B F X N T₀ hd hu hret
  refine wpAny_call ?_
  k_dflt k_enter
  k_steps
  (with_unfolding_all refine' For_unrF (by k_asm) ?_ ?ks); (case ks => (intro _; with_unfolding_all rfl))
  k_steps
  unfold Stop
  (rename (_ < _ ∧ _ < _ ∧ _ < _ ∧ AllLt _ news) => q3)
  (rename (_ < _ ∧ _ < _ ∧ AllLt _ news) => q2)
  refine iter_listUnr (by rfl) (by k_asm) (by k_asm) (.tail _ (.tail _ (.tail _ (.tail _ (.tail _ hw))))) rfl rfl ?_
  intro I hI
  have hlI := hI _ (.tail _ (.tail _ (.head _)))
  have htlI1 := hI _ (.tail _ (.head _))
  have hnI : ∀ p ∈ news, p.1 < I := fun p hp => hI _ (.tail _ (.tail _ (.tail _ (.tail _ (.tail _ hp)))))
  have hnl : ∀ p ∈ news, p.1 ≠ _ := fun p hp => Nat.ne_of_lt (kst_ltOf q2.2.2 p hp)
  have hntl : ∀ p ∈ news, p.1 ≠ _ := fun p hp => Nat.ne_of_lt (kst_ltOf q3.2.2.2 p hp)
  refine list_by (TreeJ news _ _ _ _ wa vs we (treeAll W ([], []))) (⟨⟨W, [], [], [], 0, _, _, _, hs, hW, ⟨⟨_, _, _, [], _, .tail _ (.tail _ (.tail _ (.head _))), .tail _ (.tail _ (.tail _ (.tail _ (.head _)))), .tail _ (.tail _ (.head _)), .nil⟩, by simp, by simp⟩, .tail _ (.head _), .nil, by simp; lia, by simp; lia, rfl, m3_eq _ _ _ _⟩,
      .tail _ (.tail _ (.tail _ (.tail _ (.tail _ hw)))), fun p hp => .tail _ (.tail _ (.tail _ (.tail _ (.tail _ hp)))), ⟨(Nat.ne_of_lt q3.1).symm, Nat.ne_of_lt (kst_ltOf q2.2.2 _ hw), Nat.ne_of_lt (kst_ltOf q3.2.2.2 _ hw)⟩⟩) ?turn ?done
  case turn =>
    intro v r m₁ n₁ it h tk hitc x9 F₁ N₁
    refine hideGoal fun G9 back9 => ?_
    obtain ⟨⟨Wr, T, told, tvs, e, u1, u2, u3, hs₁, hok, hT, htl, hts, hb1, hb2, hR, rfl⟩, hwl, hkeep, hne⟩ := x9
    cases Wr with
    | nil => cases hs₁
    | cons w₁ Wr =>
      cases hs₁ with
      | cons _ t₁ hs₁ =>
        dsimp only at F₁
        have ok₁ := hok w₁ (List.mem_cons_self ..)
        simp only [okWord, Bool.and_eq_true, decide_eq_true_eq] at ok₁
        have hwz : (S w₁).length ≤ 1000 := by show w₁.toArray.size ≤ 1000; simp; lia
        refine back9 ?_
        clear back9 G9
        k_steps
        unfold Stop
        have hsz : (S w₁).length = w₁.length := by show w₁.toArray.size = _; simp
        refine iter_rangeUnr (n := w₁.length) (by rfl) (by assumption) (by rw [hsz]; exact rng_small (by lia)) (by rw [hsz]; exact rng_size (by lia)) (by k_asm) (by k_asm) ?_
        intro I₂ hI₂
        have hle := List.length_cons (a := w₁) (as := Wr)
        refine range_by (TreeK news _ _ _ _ wa I it vs we Wr.length w₁ (treeGo [] w₁ (T, told))) ⟨⟨[], w₁, T, told, tvs, e, _, _, rfl, rfl, ok₁.1.1, by simpa using ok₁.2, rfl, rfl, hT.mono (fun p hp => .tail _ hp), .tail _ htl, hts, by lia, by lia, rfl, m2_eq (by rw [← path_root]; rfl)⟩, .tail _ hwl, fun p hp => .tail _ (hkeep p hp), .head _⟩ ?_ ?_
        · intro k i t₂ m₂ n₂ it₂ h₂ tk₂ hit₂ hki x9 F₂ N₂
          refine hideGoal fun G9 back9 => ?_
          obtain ⟨⟨q, r₂, T₂, told₂, tvs₂, e₂, u4, t₃, hw₂, hql, hrl, hqr, hq, hr₂, hT₂, htl₂, hts₂, hb3, hb4, hR₂, rfl⟩, hwl₂, hkeep₂, hitm₂⟩ := x9
          cases r₂ with
          | nil => cases hr₂
          | cons c r₂ =>
            dsimp only at F₂
            subst hw₂
            have hT₃ := hT₂.mono (n' := (I₂, it₂) :: n₂) (fun p hp => .tail _ hp)
            simp only [List.all_cons, Bool.and_eq_true] at hrl
            obtain ⟨hcl, hrl⟩ := hrl
            have hql4 : q.length ≤ 4 := by simp only [List.length_cons] at hqr; lia
            have hqc : (q ++ [c]).all isLetter = true := by simp [hql, hcl]
            obtain ⟨⟨hsh, tkh, nn, vs9, ep, hx1, hx2, hx3, hx4⟩, hx5, hx6⟩ := id hT₃
            have hll := hT.lt fun p hp => hI₂ p (.tail _ hp)
            have htlI := hI₂ _ (.tail _ htl)
            refine back9 ?_
            clear back9 G9
            k_steps
            rw [item_mid (by lia)]
            unfold Stop
            k_steps
            have hsl : Txt.slice (S (q ++ c :: r₂)) (some (1 + (i : Int))) none = S r₂ := by
              rw [slice_drop (k := q.length + 1) (by simp) (by lia)]
              congr 2
              rw [show q.length + 1 = (q ++ [c]).length by simp, show q ++ c :: r₂ = (q ++ [c]) ++ r₂ by simp, List.drop_left]
            rw [hsl]
            unfold Stop
            k_dflt (refine' site_use ?k1 ?k2 ?k3 ?k4 ?k5 (setdefP _ _ _ _ _ _ _ T₂ (q ++ [c]) r₂ _ _ hT₃ hqc (by simp; lia) (signs_of_letters hrl) (by simp only [List.length_cons] at hqr; lia) (by lia)) ?kd ?ku ?_)
            case k1 => k_asm
            case k2 => k_asm
            case k3 => k_asm
            case k4 => k_asm
            case k5 => k_asm
            case kd => k_room
            case ku => k_units
            intro v9 hZ tk9 n9 FZ NZ hP9
            (try dsimp only at FZ NZ hP9)
            (try dsimp only)
            refine hideGoal fun G9 back9 => ?_
            obtain ⟨⟨t9, rfl⟩, hT9, hK9⟩ := hP9
            have htl9 := hK9 _ (.tail _ htl₂) hne.1
            have hsz9 : tvs₂.length ≤ 1000 := by rw [show tvs₂.length = told₂.length from strs_len hts₂]; lia
            refine back9 ?_
            clear back9 G9
            k_steps
            have hI₂9 := hK9 (I₂, it₂) (.head _) (Nat.ne_of_gt hll)
            have hIn : I < I₂ := hI₂ _ (.head _)
            have hI9 := hK9 (I, it) (.tail _ hitm₂) (Nat.ne_of_gt hlI)
            have hwl9 := hK9 _ (.tail _ hwl₂) hne.2.1
            (rename News _ _ _ (setAt _ _ n9) => KN)
            have hTs := hT9.setAt (o := listO (tvs₂ ++ [Value.str (setVal T₂ (q ++ [c]) (S r₂)) t9]) (e₂ + 1)) NZ htl9 rfl hne.1
            refine ⟨_, _, _, off I₂ _, rfl, frr (by assumption) (by (intro z; by_cases h1 : z = (nm "node"); (focus (subst h1; rfl)); by_cases h2 : z = (nm "size"); (focus (subst h2; rfl)); simp only [if_neg h1, if_neg h2])), news_off KN (mem_setAt_of hI₂9 (Nat.ne_of_gt htlI)), off_ne, ⟨⟨q ++ [c], r₂, _, _, _, _, some (.int (1 + (i : Int)) t₂), _, by simp, hqc, hrl, by simp only [List.length_cons] at hqr; simp; lia, by simp; lia, by simpa using hr₂,
              hTs.off KN (mem_setAt_of hI₂9 (Nat.ne_of_gt htlI)) (by rw [hit₂]; decide) (by rw [hit₂]; decide) (by rw [hit₂]; decide) (by rw [hit₂]; decide),
              mem_off (mem_setAt_self htl9) (Nat.ne_of_lt htlI), strs_snoc hts₂, ?b3, ?b4, hR₂, rfl⟩, mem_so hwl9 hne.2.2 (Nat.ne_of_lt (hI₂ _ (.tail _ hwl))),
              fun p hp => mem_so (hK9 p (.tail _ (hkeep₂ p hp)) (hnl p hp)) (hntl p hp) (Nat.ne_of_lt (Nat.lt_trans (hnI p hp) hIn)), mem_so hI9 (Nat.ne_of_gt htlI1) (Nat.ne_of_lt hIn)⟩⟩
            case b3 =>
              have := setTab_len T₂ (q ++ [c]) (S r₂)
              simp only [List.length_cons] at hb3
              lia
            case b4 => simp only [List.length_cons] at hb4; simp; lia
        · intro m₂ n₂ h₂ tk₂ x9 F₂ N₂
          refine hideGoal fun G9 back9 => ?_
          obtain ⟨⟨q, r₂, T₂, told₂, tvs₂, e₂, u4, t₃, hw₂, hql, hrl, hqr, hq, hr₂, hT₂, htl₂, hts₂, hb3, hb4, hR₂, rfl⟩, hwl₂, hkeep₂, hitm₂⟩ := x9
          cases r₂ with
          | cons c r => cases hr₂
          | nil =>
          dsimp only at F₂
          refine back9 ?_
          clear back9 G9
          k_steps
          (rename News _ _ _ n₂ => KN)
          have hoff := hT₂.off KN hitm₂ (by rw [hitc]; decide) (by rw [hitc]; decide) (by rw [hitc]; decide) (by rw [hitc]; decide)
          have hRR : treeAll Wr (T₂, told₂) = treeAll W ([], []) := by
            rw [← hR]
            show treeAll Wr (treeGo q [] (T₂, told₂)) = _
            rw [hR₂]; rfl
          refine ⟨_, _, _, off I n₂, rfl, frr (by assumption) (by (intro z; by_cases h1 : z = (nm "node"); (focus (subst h1; rfl)); by_cases h2 : z = (nm "size"); (focus (subst h2; rfl)); by_cases h3 : z = (nm "word"); (focus (subst h3; rfl)); simp only [if_neg h1, if_neg h2, if_neg h3])), news_off KN hitm₂, off_ne, mem_off hwl₂ ?w2, ⟨⟨Wr, T₂, told₂, tvs₂, e₂, u4, some (.str (path q) t₃), some (.str (S w₁) t₁), hs₁, fun w hw => hok w (List.mem_cons_of_mem _ hw), hoff,
            mem_off htl₂ (Nat.ne_of_lt htlI1), hts₂, by simp at hb3; lia, by simp at hb4; lia, hRR, rfl⟩, mem_off hwl₂ ?w2, fun p hp => mem_off (hkeep₂ p hp) (Nat.ne_of_lt (hnI p hp)), hne⟩⟩
          exact Nat.ne_of_lt (hnI _ hw)
  case done =>
    intro m₁ n₁ h tk x9 F₁ N₁
    refine hideGoal fun G9 back9 => ?_
    obtain ⟨⟨Wr, T, told, tvs, e, u1, u2, u3, hs₁, hok, hT, htl, hts, hb1, hb2, hR, rfl⟩, hwl, hkeep, hne⟩ := x9
    have hTT : T = (treeAll W ([], [])).1 ∧ told = (treeAll W ([], [])).2 := by
      cases Wr with
      | cons => cases hs₁
      | nil => rw [← hR]; exact ⟨rfl, rfl⟩
    have h327' := hkeep _ h327
    obtain ⟨⟨hsh, tkh, nn, vs9, ep, hx1, hx2, hx3, hx4⟩, hx5, hx6⟩ := id hT
    have hvl : vs9.length ≤ 1000 := by rw [hx4.length]; simp only [rowsT, List.length_map]; lia
    refine back9 ?_
    clear back9 G9
    k_steps
    unfold Stop
    k_dflt (refine' site_use ?k1 ?k2 ?k3 ?k4 ?k5 (keys_c _ _ _ _ _ _ _ hsh tkh nn ep vs9 (rowsT T) hx1 hx2 hx3 hx4 hvl) ?kd ?ku ?_)
    case k1 => k_asm
    case k2 => k_asm
    case k3 => k_asm
    case k4 => k_asm
    case k5 => k_asm
    case kd => k_room
    case ku => k_units
    intro v9 hZ tk9 n9 FZ NZ hP9
    (try dsimp only at FZ NZ hP9)
    (try dsimp only)
    refine hideGoal fun G9 back9 => ?_
    obtain ⟨D, ys, rfl, hys, rfl⟩ := hP9
    have h327'' : (327, tabObj #[]) ∈ (D, listO ys ys.length) :: n₁ := .tail _ h327'
    have NY := news_off NZ h327''
    have hD327 : D ≠ 327 := apart_of NZ (.head _) h327'' (by intro e; cases e)
    have htl327 := apart_of NZ (List.mem_cons_of_mem _ htl) h327'' (by intro e; cases e)
    have hoff : ∀ p ∈ off 327 ((D, listO ys ys.length) :: n₁), p.1 ≠ 327 := off_ne
    have hT₃ := (hT.mono (n' := (D, listO ys ys.length) :: n₁) (fun p hp => .tail _ hp)).off NZ h327'' (by decide) (by decide) (by decide) (by decide)
    clear NZ
    (rename (Mine88.hd.heap_39 w.params).In _ => X9)
    have CH := codeHd_of_K (c := 331) (P := 327) X9 (by first | kernel_rfl | decide)
    refine back9 ?_
    clear back9 G9
    k_steps
    unfold Stop
    refine hideGoal fun G9 back9 => ?_
    obtain ⟨rfl, rfl⟩ := hTT
    have hysl : ys.length = (treeAll W ([], [])).1.length := by rw [strs_len hys]; simp [rowsT]
    (rename News _ _ _ (_ :: _ :: _ :: off 327 _) => KN)
    refine back9 ?_
    clear back9 G9
    refine sorted_st (vs := ys) (kz := depths (treeAll W ([], [])).1) (by k_asm) (by k_asm) ?isl (by simp [depths, hysl]) (by lia) hmin ?turn ?done
    case isl => exact ⟨_, (KN _ (.tail _ (.tail _ (.tail _ (mem_off (.head _) hD327))))).1, rfl, _, rfl⟩
    case turn =>
      intro i v k hv hk h tk own F' N'
      refine hideGoal fun G9 back9 => ?_
      obtain ⟨y, t9, hy, rfl⟩ := strs_at hys i v hv
      simp only [rowsT, List.map_map, List.getElem?_map, Option.map_eq_some_iff] at hy
      obtain ⟨kv, hkv, hy'⟩ := hy
      have hy' : y = path kv.1 := hy'.symm
      subst hy'
      simp only [depths, List.getElem?_map, hkv, Option.map_some, Option.some.injEq] at hk
      subst hk
      have ok₂ := hT0 kv (List.mem_of_getElem? hkv)
      simp only [okWord, Bool.and_eq_true, decide_eq_true_eq] at ok₂
      refine back9 ?_
      clear back9 G9
      k_steps
      rw [count_path ok₂.1.1 ok₂.1.2 ok₂.2]
      exact KskEnd.intro (by assumption) (by assumption) (fun p hp => hp)
    case done =>
      intro D₂ h₂ tk₂ out c₂ F₂ N₂ hlt₂ hso
      have hstr := sorted_strs hys (fun kv hk => by
        have ok₂ := hT0 kv hk
        simp only [okWord, Bool.and_eq_true, decide_eq_true_eq] at ok₂
        exact ⟨ok₂.1.2, ok₂.2⟩) hso
      clear CH
      k_steps
      unfold Stop
      have hlD := hT₃.lt (fun p hp => hlt₂ p (.tail _ (.tail _ (.tail _ hp))))
      have htlD := hlt₂ _ (.tail _ (.tail _ (.tail _ (mem_off (List.mem_cons_of_mem _ htl) htl327))))
      have hkD : ∀ p ∈ news, p.1 ≠ 327 → p ∈ off 327 ((D, listO ys ys.length) :: n₁) := fun p hp hne => mem_off (.tail _ (hkeep p hp)) hne
      refine iter_listUnr (vs := out.toList) (by rfl) (by k_asm) (by k_asm) (.head _) rfl rfl ?_
      intro I₃ hI₃
      have hlI₃ := hT₃.lt (fun p hp => hI₃ p (.tail _ (.tail _ (.tail _ (.tail _ hp)))))
      have htlI₃ := hI₃ _ (.tail _ (.tail _ (.tail _ (.tail _ (mem_off (List.mem_cons_of_mem _ htl) htl327)))))
      have hDI₃ := hI₃ _ (.head _)
      have h7I : 327 < I₃ := by
        first
        | exact hI₃ _ (.tail _ (.head _))
        | exact hI₃ _ (.tail _ (.tail _ (.head _)))
        | exact hI₃ _ (.tail _ (.tail _ (.tail _ (.head _))))
      have hkI₃ : ∀ p ∈ news, p.1 ≠ 327 → p.1 < I₃ := fun p hp hne => hI₃ p (.tail _ (.tail _ (.tail _ (.tail _ (hkD p hp hne)))))
      refine list_by (FixJ news _ _ _ _ D₂ (seqObj "list" out c₂) tvs e Tf) ⟨⟨_, _, _, _, _, hstr, hfix, hT₃.mono (fun p hp => .tail _ (.tail _ (.tail _ (.tail _ hp)))), by lia, m3_eq _ _ _ _⟩, .tail _ (.tail _ (.tail _ (.tail _ (mem_off (List.mem_cons_of_mem _ htl) htl327)))), fun p hp hne => .tail _ (.tail _ (.tail _ (.tail _ (hkD p hp hne)))), .head _, by first | exact ⟨_, .tail _ (.head _)⟩ | exact ⟨_, .tail _ (.tail _ (.head _))⟩ | exact ⟨_, .tail _ (.tail _ (.tail _ (.head _)))⟩⟩ ?turn ?done
      case turn =>
        intro v r m₁ n₄ it₃ h tk hitc x9 F₁ N₁
        refine hideGoal fun G9 back9 => ?_
        obtain ⟨⟨rem, T, u4, u5, u6, hs₁, hfx, hT, hb5, rfl⟩, htl₄, hkeep₄, hlp₄, ps7, h7⟩ := x9
        cases rem with
        | nil => cases hs₁
        | cons p₁ rem =>
          cases hs₁ with
          | cons _ t₁ hs₁ =>
          dsimp only at F₁
          cases hfx with
          | @none _ q c _ _ r₁ n₅ hq1 hc1 hql1 hg1 hw1 hr1 hrl1 hfx =>
            have hqc : (q ++ [c]).all isLetter = true := by simp [hq1, hc1]
            have hT₅ := hT.mono (n' := (I₃, it₃) :: n₄) (fun p hp => .tail _ hp)
            refine back9 ?_
            clear back9 G9
            k_steps
            unfold Stop
            k_dflt (refine' site_use ?k1 ?k2 ?k3 ?k4 ?k5 (splitP _ _ _ _ q c _ hq1 hc1 hql1) ?kd ?ku ?_)
            case k1 => k_asm
            case k2 => k_asm
            case k3 => k_asm
            case k4 => k_asm
            case k5 => k_asm
            case kd => k_room
            case ku => k_units
            intro v9 hZ tk9 n9 FZ NZ hP9
            (try dsimp only at FZ NZ hP9)
            (try dsimp only)
            refine hideGoal fun G9 back9 => ?_
            obtain ⟨D₃, ta, tb, e₃, rfl, rfl⟩ := hP9
            unfold tup2 at NZ
            have hT₆ := hT₅.mono (n' := (D₃, { cls := .type "tuple", data := .seq #[.str (path q) ta, .str (S [c]) tb] e₃ }) :: (I₃, it₃) :: n₄) (fun p hp => .tail _ hp)
            obtain ⟨⟨hsh₆, tkh₆, nn₆, vs₆, ep₆, hy1, hy2, hy3, hy4⟩, hy5, hy6⟩ := id hT₆
            refine back9 ?_
            clear back9 G9
            k_steps
            unfold Stop
            k_dflt (refine' site_use ?k1 ?k2 ?k3 ?k4 ?k5 (step_c _ _ _ _ _ _ _ T c _ .none none r₁ n₅ hT₆ hc1 rfl hw1) ?kd ?ku ?_)
            case k1 => k_asm
            case k2 => k_asm
            case k3 => k_asm
            case k4 => k_asm
            case k5 => k_asm
            case kd => k_room
            case ku => k_units
            intro v9 hZ tk9 n9 FZ NZ hP9
            (try dsimp only at FZ NZ hP9)
            (try dsimp only)
            refine hideGoal fun G9 back9 => ?_
            obtain ⟨rfl, t₇, rfl⟩ := hP9
            refine back9 ?_
            clear back9 G9
            k_steps
            unfold Stop
            k_dflt (refine' site_use ?k1 ?k2 ?k3 ?k4 ?k5 (setitemP _ _ _ _ _ _ _ T (q ++ [c]) (pathL r₁) _ _ hT₆ hqc (by simp; lia) (signs_path hr1) (pathL_size hrl1) (by lia)) ?kd ?ku ?_)
            case k1 => k_asm
            case k2 => k_asm
            case k3 => k_asm
            case k4 => k_asm
            case k5 => k_asm
            case kd => k_room
            case ku => k_units
            intro v9 hZ tk9 n9 FZ NZ hP9
            (try dsimp only at FZ NZ hP9)
            (try dsimp only)
            refine hideGoal fun G9 back9 => ?_
            obtain ⟨rfl, hT₈, hK₈⟩ := hP9
            refine back9 ?_
            clear back9 G9
            k_steps
            have hI9 := hK₈ (I₃, it₃) (.tail _ (.head _)) (Nat.ne_of_gt hlI₃)
            have hb6 := putTab_len T (q ++ [c]) (path r₁)
            exact ⟨_, _, _, off I₃ n9, rfl, frr (by assumption) (by (intro z; by_cases h1 : z = (nm "sign"); (focus (subst h1; rfl)); by_cases h2 : z = (nm "above"); (focus (subst h2; rfl)); by_cases h3 : z = (nm "node"); (focus (subst h3; rfl)); simp only [if_neg h1, if_neg h2, if_neg h3])), news_off NZ hI9, off_ne,
              mem_off (hK₈ _ (.tail _ (.tail _ hlp₄)) (Nat.ne_of_gt hlD)) (Nat.ne_of_lt hDI₃),
              ⟨⟨rem, _, some (.str (S [c]) tb), some (.str (path q) ta), some (.str (path (q ++ [c])) t₁), hs₁, hfx, hT₈.off NZ hI9 (by rw [hitc]; decide) (by rw [hitc]; decide) (by rw [hitc]; decide) (by rw [hitc]; decide), by simp only [List.length_cons] at hb5; lia, rfl⟩,
                mem_off (hK₈ _ (.tail _ (.tail _ htl₄)) hne.1) (Nat.ne_of_lt htlI₃), fun p hp hne' => mem_off (hK₈ p (.tail _ (.tail _ (hkeep₄ p hp hne'))) (hnl p hp)) (Nat.ne_of_lt (hkI₃ p hp hne')), mem_off (hK₈ _ (.tail _ (.tail _ hlp₄)) (Nat.ne_of_gt hlD)) (Nat.ne_of_lt hDI₃), ps7, mem_off (hK₈ _ (.tail _ (.tail _ h7)) (by have e7 := hnl _ h327; exact e7)) (Nat.ne_of_lt h7I)⟩⟩
          | @some _ q c _ _ f r₁ n₅ hq1 hc1 hql1 hg1 hw1 hr1 hrl1 hfx =>
            have hqc : (q ++ [c]).all isLetter = true := by simp [hq1, hc1]
            have hT₅ := hT.mono (n' := (I₃, it₃) :: n₄) (fun p hp => .tail _ hp)
            refine back9 ?_
            clear back9 G9
            k_steps
            unfold Stop
            k_dflt (refine' site_use ?k1 ?k2 ?k3 ?k4 ?k5 (splitP _ _ _ _ q c _ hq1 hc1 hql1) ?kd ?ku ?_)
            case k1 => k_asm
            case k2 => k_asm
            case k3 => k_asm
            case k4 => k_asm
            case k5 => k_asm
            case kd => k_room
            case ku => k_units
            intro v9 hZ tk9 n9 FZ NZ hP9
            (try dsimp only at FZ NZ hP9)
            (try dsimp only)
            refine hideGoal fun G9 back9 => ?_
            obtain ⟨D₃, ta, tb, e₃, rfl, rfl⟩ := hP9
            unfold tup2 at NZ
            have hT₆ := hT₅.mono (n' := (D₃, { cls := .type "tuple", data := .seq #[.str (path q) ta, .str (S [c]) tb] e₃ }) :: (I₃, it₃) :: n₄) (fun p hp => .tail _ hp)
            obtain ⟨⟨hsh₆, tkh₆, nn₆, vs₆, ep₆, hy1, hy2, hy3, hy4⟩, hy5, hy6⟩ := id hT₆
            refine back9 ?_
            clear back9 G9
            k_steps
            unfold Stop
            k_dflt (refine' site_use ?k1 ?k2 ?k3 ?k4 ?k5 (step_c _ _ _ _ _ _ _ T c _ _ (some f) r₁ n₅ hT₆ hc1 ⟨_, rfl⟩ hw1) ?kd ?ku ?_)
            case k1 => k_asm
            case k2 => k_asm
            case k3 => k_asm
            case k4 => k_asm
            case k5 => k_asm
            case kd => k_room
            case ku => k_units
            intro v9 hZ tk9 n9 FZ NZ hP9
            (try dsimp only at FZ NZ hP9)
            (try dsimp only)
            refine hideGoal fun G9 back9 => ?_
            obtain ⟨rfl, t₇, rfl⟩ := hP9
            refine back9 ?_
            clear back9 G9
            k_steps
            unfold Stop
            k_dflt (refine' site_use ?k1 ?k2 ?k3 ?k4 ?k5 (setitemP _ _ _ _ _ _ _ T (q ++ [c]) (pathL r₁) _ _ hT₆ hqc (by simp; lia) (signs_path hr1) (pathL_size hrl1) (by lia)) ?kd ?ku ?_)
            case k1 => k_asm
            case k2 => k_asm
            case k3 => k_asm
            case k4 => k_asm
            case k5 => k_asm
            case kd => k_room
            case ku => k_units
            intro v9 hZ tk9 n9 FZ NZ hP9
            (try dsimp only at FZ NZ hP9)
            (try dsimp only)
            refine hideGoal fun G9 back9 => ?_
            obtain ⟨rfl, hT₈, hK₈⟩ := hP9
            refine back9 ?_
            clear back9 G9
            k_steps
            have hI9 := hK₈ (I₃, it₃) (.tail _ (.head _)) (Nat.ne_of_gt hlI₃)
            have hb6 := putTab_len T (q ++ [c]) (path r₁)
            exact ⟨_, _, _, off I₃ n9, rfl, frr (by assumption) (by (intro z; by_cases h1 : z = (nm "sign"); (focus (subst h1; rfl)); by_cases h2 : z = (nm "above"); (focus (subst h2; rfl)); by_cases h3 : z = (nm "node"); (focus (subst h3; rfl)); simp only [if_neg h1, if_neg h2, if_neg h3])), news_off NZ hI9, off_ne,
              mem_off (hK₈ _ (.tail _ (.tail _ hlp₄)) (Nat.ne_of_gt hlD)) (Nat.ne_of_lt hDI₃),
              ⟨⟨rem, _, some (.str (S [c]) tb), some (.str (path q) ta), some (.str (path (q ++ [c])) t₁), hs₁, hfx, hT₈.off NZ hI9 (by rw [hitc]; decide) (by rw [hitc]; decide) (by rw [hitc]; decide) (by rw [hitc]; decide), by simp only [List.length_cons] at hb5; lia, rfl⟩,
                mem_off (hK₈ _ (.tail _ (.tail _ htl₄)) hne.1) (Nat.ne_of_lt htlI₃), fun p hp hne' => mem_off (hK₈ p (.tail _ (.tail _ (hkeep₄ p hp hne'))) (hnl p hp)) (Nat.ne_of_lt (hkI₃ p hp hne')), mem_off (hK₈ _ (.tail _ (.tail _ hlp₄)) (Nat.ne_of_gt hlD)) (Nat.ne_of_lt hDI₃), ps7, mem_off (hK₈ _ (.tail _ (.tail _ h7)) (by have e7 := hnl _ h327; exact e7)) (Nat.ne_of_lt h7I)⟩⟩
      case done =>
        intro m₁ n₄ h tk x9 F₁ N₁
        refine hideGoal fun G9 back9 => ?_
        obtain ⟨⟨rem, T, u4, u5, u6, hs₁, hfx, hT, hb5, rfl⟩, htl₄, hkeep₄, hlp₄, ps7, h7⟩ := x9
        cases rem with
        | cons p rem => cases hs₁
        | nil =>
          cases hfx
          refine back9 ?_
          clear back9 G9
          k_steps
          exact hret _ _ _ _ (by assumption) (by assumption) ⟨_, _, _, _, _, tvs, e, _, rfl, .head _, hT.mono (fun p hp => .tail _ hp), .tail _ htl₄, hts, fun p hp hne => .tail _ (hkeep₄ p hp hne), ps7, .tail _ h7⟩
end Mine88
end

-- part P33b
section
open PySem PySem.W PyProof.Rows PySem.Spec PySem.Calls
set_option maxRecDepth 100000
set_option maxHeartbeats 8000000
namespace Mine88
open PyProof.Rows.LCg
noncomputable def dig (c k : Nat) : Nat := c / 5 ^ k % 5
noncomputable def digs (n c : Nat) : List Nat := (List.range n).map (dig c)
inductive NatsAre : List Value → List Nat → Prop
  | nil : NatsAre [] []
  | cons {vs cs} (c : Nat) (t : Tok) : NatsAre vs cs → NatsAre (.int (c : Int) t :: vs) (c :: cs)
noncomputable def RowD (n : Led) (v : Value) (d : List Nat) : Prop := ∃ a vs e, v = .ref a ∧ (a, listO vs e) ∈ n ∧ DigsAre vs d
inductive RowsD (n : Led) : List Value → List (List Nat) → Prop
  | nil : RowsD n [] []
  | cons {v vs d ds} : RowD n v d → RowsD n vs ds → RowsD n (v :: vs) (d :: ds)
theorem RowD.mono {n n' : Led} {v d} (h : RowD n v d) (hs : ∀ p ∈ n, p ∈ n') : RowD n' v d := let ⟨a, vs, e, h1, h2, h3⟩ := h; ⟨a, vs, e, h1, hs _ h2, h3⟩
theorem RowsD.mono {n n' : Led} {vs ds} (h : RowsD n vs ds) (hs : ∀ p ∈ n, p ∈ n') : RowsD n' vs ds := by
  induction h with
  | nil => exact .nil
  | cons r _ ih => exact .cons (r.mono hs) ih
theorem RowsD.snoc {n : Led} {vs ds v d} (h : RowsD n vs ds) (r : RowD n v d) : RowsD n (vs ++ [v]) (ds ++ [d]) := by
  induction h with
  | nil => exact .cons r .nil
  | cons r' _ ih => exact .cons r' ih
theorem DigsAre.snoc {vs ds} (h : DigsAre vs ds) (d : Nat) (t : Tok) (hd : d ≤ 4) : DigsAre (vs ++ [.int (d : Int) t]) (ds ++ [d]) := by
  induction h with
  | nil => exact .cons d t hd .nil
  | cons e u he _ ih => exact .cons e u he ih
theorem dig_le (c k : Nat) : dig c k ≤ 4 := by unfold dig; omega
theorem dig_val (c k p : Nat) (hp : 5 ^ k = p) : Int.fmod (Int.fdiv (c : Int) (p : Int)) 5 = ((dig c k : Nat) : Int) := by
  rw [Int.fdiv_eq_ediv_of_nonneg _ (Int.natCast_nonneg _), Int.fmod_eq_emod_of_nonneg _ (by decide)]
  unfold dig
  rw [hp]
  simp
theorem dig_pow (c k : Nat) {e : Int} (he : e.toNat = k) : Int.fmod (Int.fdiv (c : Int) ((5 : Int) ^ e.toNat)) 5 = ((dig c k : Nat) : Int) := by
  subst he
  have hp : (5 : Int) ^ e.toNat = ((5 ^ e.toNat : Nat) : Int) := by simp
  rw [hp]
  exact dig_val c e.toNat _ rfl
theorem digs_snoc {zs : List Value} {k c : Nat} {v : Int} {t : Tok} (h : DigsAre zs (digs k c)) (hv : v = ((dig c k : Nat) : Int)) : DigsAre (zs ++ [.int v t]) (digs (k + 1) c) := by
  unfold digs
  rw [List.range_succ, List.map_append, hv]
  exact h.snoc _ t (dig_le c k)
noncomputable def wordC (c : Nat) : List Nat := ((digs 4 c).map signD).take (1 + c / 625 % 4)
theorem join_empty (u : List Nat) : Txt.join (PySem.Str.ofString "") (u.map fun n => S [n]) = S u := by
  unfold Txt.join
  rw [StrLaws.glued_eq_join]
  have key : ∀ (u : List Nat) (c : Nat), PySem.Str.join (PySem.Str.ofString "") ((c :: u).map fun n => S [n]) = S (c :: u) := by
    intro u
    induction u with
    | nil => intro c; rfl
    | cons d r ih =>
      intro c
      show S [c] ++ PySem.Str.ofString "" ++ PySem.Str.join (PySem.Str.ofString "") ((d :: r).map fun n => S [n]) = _
      rw [ih d, show PySem.Str.ofString "" = S [] from by decide +kernel, S_app, S_app]; rfl
  cases u with
  | nil => rfl
  | cons c r => exact key r c
theorem join_sum (u : List Nat) : ((u.map fun n => S [n]).map (·.length)).sum + (u.map fun n => S [n]).length = 2 * u.length := by
  induction u with
  | nil => rfl
  | cons c r ih =>
    simp only [List.map_cons, List.sum_cons, List.length_cons] at ih ⊢
    have : (S [c]).length = 1 := rfl
    lia
theorem size_val (c : Nat) : (1 : Int) + Int.fmod (Int.fdiv (c : Int) 625) 4 = ((1 + c / 625 % 4 : Nat) : Int) := by
  rw [Int.fdiv_eq_ediv_of_nonneg _ (by decide), Int.fmod_eq_emod_of_nonneg _ (by decide)]
  lia
theorem written4_site (w : World) (dp un : Nat) (news : Led) (da : Addr) (vs : List Value) (we : Nat) (ds : List Nat) (hw : (da, listO vs we) ∈ news) (hd : DigsAre vs ds) (hl : ds.length = 4) :
    Site w dp un 100 900 318 [.ref da] [] news (fun v _ n' => (∃ t, v = .str (S (ds.map signD)) t) ∧ n' = news) := Site.of_look hw fun rest => written4 w dp un rest da vs we ds hd hl
theorem written8_site (w : World) (dp un : Nat) (news : Led) (da : Addr) (vs : List Value) (we : Nat) (ds : List Nat) (hw : (da, listO vs we) ∈ news) (hd : DigsAre vs ds) (hl : ds.length = 8) :
    Site w dp un 100 900 318 [.ref da] [] news (fun v _ n' => (∃ t, v = .str (S (ds.map signD)) t) ∧ n' = news) := Site.of_look hw fun rest => written8 w dp un rest da vs we ds hd hl
theorem three_rows {P : Nat → Value → Value → Prop} {x0 x1 x2 : Value} {y0 y1 y2 y3 : Value} (h0 : P 0 x0 y0) (h1 : P 1 x1 y1) (h2 : P 2 x2 y2) {i : Nat} {x y : Value} (hx : [x0, x1, x2][i]? = some x) (hy : [y0, y1, y2, y3][i]? = some y) : P i x y := by
  match i, hx, hy with
  | 0, hx, hy => cases hx; cases hy; exact h0
  | 1, hx, hy => cases hx; cases hy; exact h1
  | 2, hx, hy => cases hx; cases hy; exact h2
  | n + 3, hx, hy => simp at hx
theorem digs_len (n c : Nat) : (digs n c).length = n := by simp [digs]
theorem sign_strs (ds : List Nat) : (ds.map fun d => S [signD d]) = (ds.map signD).map fun n => S [n] := by rw [List.map_map]; rfl
theorem sign_bound {ds : List Nat} (h : ds.length ≤ 8) : (((ds.map fun d => S [signD d]).map (·.length)).sum + (ds.map fun d => S [signD d]).length) ≤ 1048576 := by
  rw [sign_strs, join_sum, List.length_map]; lia
theorem S_len (l : List Nat) : (S l).length = l.length := by show l.toArray.size = _; simp
theorem rc_in {h₀ h : Heap} {L : Addr} {own news : Led} {x y : Addr × Obj} (_N : News h₀ L h (x :: y :: (own ++ news))) {P : Led → Prop} (hP : ∀ nn, (∀ p ∈ news, p ∈ nn) → P nn) : P (own ++ news) := hP _ fun p hp => List.mem_append_right _ hp
noncomputable def RowC (news : Led) (l : List PySem.Str) (i : Nat) (x y : Value) : Prop := ∃ (ra : Addr) (v : List Value) (e c : Nat) (t : Tok), x = .ref ra ∧ y = .int (c : Int) t ∧ (ra, listO v e) ∈ news ∧ DigsAre v (digs 4 c) ∧ c ≤ 1000000000 ∧ l.take (i + 1) = l.take i ++ [S (wordC c)]
end Mine88
end

-- part P31
section
open PySem PySem.W PyProof.Rows PySem.Spec PySem.Calls
set_option maxRecDepth 100000
set_option maxHeartbeats 8000000
namespace Mine88
open PyProof.Rows.LCg
theorem m1_eq (m₀ : Fm) (a : PySem.Str) : m₀ = fun y => if y = a then m₀ a else m₀ y := by
  funext y
  by_cases h : y = a
  · rw [if_pos h, h]
  · rw [if_neg h]
theorem five_ex {h₀ h : Heap} {L : Addr} {n : Led} {p q r t u : Addr × Obj} (N : News h₀ L h n) (h1 : p ∈ n) (h2 : q ∈ n) (h3 : r ∈ n) (h4 : t ∈ n) (h5 : u ∈ n) : ∃ n₂ : Led, News h₀ L h n₂ ∧ p ∈ n₂ ∧ q ∈ n₂ ∧ r ∈ n₂ ∧ t ∈ n₂ ∧ u ∈ n₂ := ⟨n, N, h1, h2, h3, h4, h5⟩
inductive FroKX (wa fl sl I : Addr) (it : Obj) (vs : List Value) (we b k : Nat) (R : List (List Nat)) (m₀ : Fm) (r : List Value) (m : Fm) (n : Led) : Prop
  | mk : ∀ (Wr acc : List (List Nat)) (fvs : List Value) (fe : Nat) (svs : List Value) (se : Nat) (u1 : Option Value), StrsAre r (Wr.map S) → (∀ w ∈ Wr, okWord w = true) → (fl, listO fvs fe) ∈ n → StrsAre fvs (acc.map path) → (sl, listO svs se) ∈ n → StrsAre svs (acc.map lowS) → acc.length + Wr.length + b ≤ 12 → Wr.foldl (frontAdd k) acc = R → (I, it) ∈ n → (m = fun y => if y = nm "word" then u1 else m₀ y) → FroKX wa fl sl I it vs we b k R m₀ r m n
structure FroK (wa fl sl I : Addr) (it : Obj) (vs : List Value) (we b k : Nat) (R : List (List Nat)) (m₀ : Fm) (r : List Value) (m : Fm) (n : Led) : Prop where
  ex : FroKX wa fl sl I it vs we b k R m₀ r m n
  wl : (wa, listO vs we) ∈ n
inductive FroJX (W : List (List Nat)) (wa fl sl : Addr) (vs : List Value) (we : Nat) (m₀ : Fm) (k i : Nat) (m : Fm) (n : Led) : Prop
  | mk : ∀ (acc : List (List Nat)) (fvs : List Value) (fe : Nat) (svs : List Value) (se : Nat) (u1 u2 : Option Value), (fl, listO fvs fe) ∈ n → StrsAre fvs (acc.map path) → (sl, listO svs se) ∈ n → StrsAre svs (acc.map lowS) → acc.length + 3 * k ≤ 12 → acc = (List.range i).foldl (fun acc i => W.foldl (frontAdd (i + 1)) acc) [] → (m = fun y => if y = nm "word" then u1 else if y = nm "size" then u2 else m₀ y) → FroJX W wa fl sl vs we m₀ k i m n
structure FroJ (W : List (List Nat)) (wa fl sl : Addr) (vs : List Value) (we : Nat) (m₀ : Fm) (k i : Nat) (m : Fm) (n : Led) : Prop where
  ex : FroJX W wa fl sl vs we m₀ k i m n
  wl : (wa, listO vs we) ∈ n
theorem set_rows_P31 : True := by
  k_with_none
  k_with "call builtin:issubclass" => (k_here; (with_reducible show wpAny _ _ (call (Value.builtin "issubclass") [Value.type "str", Value.ref _]) _ _ _); k_dflt (refine' issub_call ?k1 ?_; (case k1 => exact News.get (by assumption) (by k_mem)); k_whole); intro tk_z)
  k_with "truthy str" => (k_here; (with_reducible show wpAny _ _ (PySem.truthy (Value.str _ _)) _ _ _); (refine' KXt.truthy_pos (K := 1000) ?kxta ?kxtb ?kxtc ?_; (case kxta => assumption); (case kxtb => assumption); (case kxtc => exact Nat.le_of_ble_eq_true rfl)); intro _)
  k_with "call builtin:list.append" => (k_here; (with_reducible show wpAny _ _ (call (Value.builtin _) [Value.ref _, _]) _ _ _); k_dflt (refine' append_in ?k1 ?k2 ?k3 ?k4 ?_; (case k1 => k_asm); (case k2 => k_asm); (case k3 => k_mem); (case k4 => first | assumption | (simp only [List.length_append, List.length_cons, List.length_nil]; omega)); k_whole); intro h'_z F'_z N'_z)
  k_with "exec For Name Name cons nil" => (k_here; (rename Fr _ _ _ _ => lF'); (with_unfolding_all refine' For_invVF lF' ?k1 ?k2 ?_; (case k1 => exact rfl); (case k2 => exact rfl); k_whole))
  k_with "exec For Name Call cons nil" => (k_here; (rename Fr _ _ _ _ => lF'); (with_unfolding_all refine' For_invVF lF' ?k1 ?k2 ?_; (case k1 => exact rfl); (case k2 => exact rfl); k_whole))
  k_with "pyIter ref" => ((with_reducible show wpAny _ _ (pyIter (Value.ref _)) (fun it s₂ => LoopAtV _ _ _ _ _ _ _ _ _ it s₂) _ _); k_here; refine Stop.out ?_)
  k_with "LeaveK" => (k_here; k_dflt (refine' leaveR ?k0 ?k1 ?k2 ?_; (case k0 => assumption); (case k1 => k_asm); (case k2 => k_asm); k_whole); intro kF_z kN_z kK_z)
  k_with "call builtin:str.join" => (k_here; (with_reducible show wpAny _ _ (call (Value.builtin "str.join") [Value.str _ _, Value.str _ _]) _ _ _); k_dflt (refine' join_strF ?k1 ?k2 ?k3 ?k4 ?_; (case k1 => exact rfl); (case k2 => k_asm); (case k3 => k_asm); (case k4 => exact join_fits (by with_reducible assumption)); k_whole); intro h'_z k'_z t'_z F'_z N'_z)
  k_with "compareOp NotIn str ref" => (k_here; (with_reducible show wpAny _ _ (compareOp CmpOp.NotIn (Value.str _ _) (Value.ref _)) _ _ _); k_dflt (refine' notin_list_strs ?k1 ?k2 ?_; (case k1 => exact listIn (by k_asm) (by k_mem)); (case k2 => assumption); k_whole))
  trivial
theorem fronts_c (w : World) (dp un : Nat) (rest : List (Addr × Obj)) (wa : Addr) (vs : List Value) (we : Nat) (W : List (List Nat)) (hs : StrsAre vs (W.map S)) (hW : ∀ w ∈ W, okWord w = true) (hl : W.length ≤ 3) :
    SiteR w dp un 60 600 344 [.ref wa] [] [(wa, listO vs we)] rest (fun v n' => ∃ D ys e, v = .ref D ∧ StrsAre ys ((frontsAll W).map path) ∧ (D, listO ys e) ∈ n' ∧ (wa, listO vs we) ∈ n') := by
  unfold SiteR
  k_fill
  intro gd cn csn csg csc csm aa ccd cl outer A₀ base h₀ L m s Q E p loose mean mg mb B F X N hR T₀ hdd hu hret
  refine wpAny_call ?_
  k_dflt (refine' code_defR hR ?k1 ?k2 ?k3 ?k4 ?k5 ?kA ?kF ?kK ?k6 ?k7 ?k8 ?k9 ?kB ?_ ?c2 ?c3 ?c4 ?c5; (case kA => exact rfl); (case kF => exact rfl); (case kK => exact rfl); (case k1 => k_asm); (case k2 => k_asm); (case k3 => k_asm); (case k4 => k_asm); (case k5 => k_asm); (case k6 => k_is); (case k7 => k_is); (case k8 => k_room); (case k9 => first | exact BindsTo.of_eq rfl | exact binds_K (by k_in) rfl (by k_is) rfl rfl rfl); (case c2 => exact rfl); (case c3 => exact rfl); (case c4 => exact rfl); (case c5 => decide); (case kB => exact locs rfl); k_whole)
  intro gR LR hR1 hg FG F₁ N₁ B₁ X₁ T₁
  (try dsimp only at *)
  k_steps
  unfold Stop
  rename_i fl hh6 d1 sl hh5 d2 Dt hh4 d3 hh3 hh2 hh1 Fa Na hh0 tk0 tt uu vv hrng FF NN hkeep
  refine iter_rangeUnr (n := 4) (by rfl) hrng (by decide) (by decide) FF NN ?_
  intro I hI
  have dflI : fl < I := hI _ (.tail _ (.tail _ (.head _)))
  have dslI : sl < I := hI _ (.tail _ (.head _))
  have dwaI : wa < I := hI _ (.tail _ (.tail _ (.tail _ (.head _))))
  refine range_by (FroJ W wa fl sl vs we) ⟨⟨[], [], _, [], _, _, _, .tail _ (.tail _ (.head _)), .nil, .tail _ (.head _), .nil, by simp, rfl, m2_eq rfl⟩, .tail _ (.tail _ (.tail _ (.head _)))⟩ ?turn ?done
  case turn =>
    intro k i t m₁ n₁ it h tk hitc hki x9 F₁ N₁
    refine hideGoal fun G9 back9 => ?_
    obtain ⟨⟨acc, fvs, fe, svs, se, u1, u2, hfl, hfs, hsl, hss, hb, hacc, rfl⟩, hwl⟩ := x9
    dsimp only at F₁
    refine back9 ?_
    clear back9 G9
    k_steps
    unfold Stop
    refine iter_listUnr (by rfl) (by k_asm) (by k_asm) (.tail _ hwl) rfl rfl ?_
    intro I₂ hI₂
    have dflI₂ : fl < I₂ := hI₂ _ (.tail _ hfl)
    have dslI₂ : sl < I₂ := hI₂ _ (.tail _ hsl)
    have dwaI₂ : wa < I₂ := hI₂ _ (.tail _ hwl)
    have dII₂ : I < I₂ := hI₂ _ (.head _)
    refine list_by (FroK wa fl sl I it vs we (3 * k) (i + 1) (W.foldl (frontAdd (i + 1)) acc)) ⟨⟨W, acc, fvs, fe, svs, se, _, hs, hW, .tail _ hfl, hfs, .tail _ hsl, hss, by lia, rfl, .head _, m1_eq _ _⟩, .tail _ hwl⟩ ?turn2 ?done2
    case turn2 =>
      intro v r m₂ n₂ it₂ h₂ tk₂ hit₂ x9 F₂ N₂
      refine hideGoal fun G9 back9 => ?_
      obtain ⟨⟨Wr, acc₂, fvs₂, fe₂, svs₂, se₂, u3, hsr, hok, hfl₂, hfs₂, hsl₂, hss₂, hb₂, hR₂, hit, rfl⟩, hwl₂⟩ := x9
      cases Wr with
      | nil => cases hsr
      | cons w₁ Wr =>
        cases hsr with
        | cons _ t₁ hsr =>
        dsimp only at F₂
        have ok₁ := hok w₁ (List.mem_cons_self ..)
        simp only [okWord, Bool.and_eq_true, decide_eq_true_eq] at ok₁
        have hwz : (S w₁).length ≤ 1000 := by show w₁.toArray.size ≤ 1000; simp; lia
        have hsz : (S w₁).length = w₁.length := by show w₁.toArray.size = _; simp
        have hj : (1 + (i : Int)) = ((i + 1 : Nat) : Int) := by lia
        have hlow : Txt.lower (Txt.slice (S w₁) none (some (1 + (i : Int)))) = lowS (w₁.take (i + 1)) := by rw [slice_takeA hj, lower_S (take_signs ok₁.1.1 _)]; rfl
        have hpj : PySem.Str.ofString "/" ++ Txt.join (PySem.Str.ofString "/") (signs (Txt.slice (S w₁) none (some (1 + (i : Int))))) = path (w₁.take (i + 1)) := by rw [slice_takeA hj, path_joined]
        have hsl3 : (Txt.slice (S w₁) none (some (1 + (i : Int)))).length ≤ 1000 := by
          rw [slice_takeA hj]; show (w₁.take (i + 1)).toArray.size ≤ 1000; simp; lia
        have hjl : (Txt.join (PySem.Str.ofString "/") (signs (Txt.slice (S w₁) none (some (1 + (i : Int)))))).length ≤ 1000 := by rw [slice_takeA hj]; exact join_len (by simp; lia)
        have hfv : fvs₂.length ≤ 100 := by rw [strs_len hfs₂, List.length_map]; lia
        have hsv : svs₂.length ≤ 100 := by rw [strs_len hss₂, List.length_map]; lia
        have hfv2 : fvs₂.length ≤ 1000 := by lia
        have hsv2 : svs₂.length ≤ 1000 := by lia
        have dsf : sl ≠ fl := Nat.ne_of_gt d2.1
        have dwf : wa ≠ fl := Nat.ne_of_lt d1
        have dws : wa ≠ sl := Nat.ne_of_lt d2.2
        refine back9 ?_
        clear back9 G9
        k_steps
        · (rename News _ _ _ ((I₂, it₂) :: n₂) => KN)
          (rename (List.any _ _) = true => hq)
          rw [hlow, any_low] at hq
          have hf : frontAdd (i + 1) acc₂ w₁ = acc₂ := by
            unfold frontAdd
            rw [if_neg (fun z => by rw [z.2] at hq; cases hq)]
          refine LTurn.intro (frr (by assumption) (by (intro z; by_cases h1 : z = (nm "word"); (focus (subst h1; rfl)); simp only [if_neg h1]))) KN (.head _) ⟨mem_off (.tail _ hwl₂) (Nat.ne_of_lt dwaI₂), ⟨⟨Wr, acc₂, fvs₂, fe₂, svs₂, se₂, some (.str (S w₁) t₁), hsr, fun w hw => hok w (List.mem_cons_of_mem _ hw), mem_off (.tail _ hfl₂) (Nat.ne_of_lt dflI₂), hfs₂, mem_off (.tail _ hsl₂) (Nat.ne_of_lt dslI₂), hss₂, by simp only [List.length_cons] at hb₂; lia, by rw [← hR₂, List.foldl_cons, hf], mem_off (.tail _ hit) (Nat.ne_of_lt dII₂), rfl⟩, mem_off (.tail _ hwl₂) (Nat.ne_of_lt dwaI₂)⟩⟩
        · (rename News _ _ _ (setAt _ _ _) => KN)
          (rename (List.any _ _) = false => hq)
          rw [hlow, any_low] at hq
          have hlen : i + 1 ≤ w₁.length := by lia
          have hf : frontAdd (i + 1) acc₂ w₁ = acc₂ ++ [w₁.take (i + 1)] := by
            unfold frontAdd
            rw [if_pos ⟨hlen, hq⟩]
          rw [hpj] at KN
          refine hideGoal fun G9 back9 => ?_
          obtain ⟨n₃, KN3, g1, g2, g3, g4, g5⟩ := five_ex KN (mem_setAt_self (.tail _ hfl₂)) (mem_setAt_of (.tail _ hsl₂) dsf) (mem_setAt_of (.head _) (Nat.ne_of_gt dflI₂)) (mem_setAt_of (.tail _ hit) (Nat.ne_of_gt dflI)) (mem_setAt_of (.tail _ hwl₂) dwf)
          clear KN
          refine back9 ?_
          clear back9 G9
          k_steps
          (rename News _ _ _ (setAt _ _ n₃) => KN)
          rw [hlow] at KN
          refine LTurn.intro (frr (by assumption) (by (intro z; by_cases h1 : z = (nm "word"); (focus (subst h1; rfl)); simp only [if_neg h1]))) KN (mem_setAt_of g3 (Nat.ne_of_gt dslI₂)) ⟨mem_off (mem_setAt_of g5 dws) (Nat.ne_of_lt dwaI₂), ⟨⟨Wr, acc₂ ++ [w₁.take (i + 1)], _, _, _, _, some (.str (S w₁) t₁), hsr, fun w hw => hok w (List.mem_cons_of_mem _ hw), mem_off (mem_setAt_of g1 (Ne.symm dsf)) (Nat.ne_of_lt dflI₂), ?s1, mem_off (mem_setAt_self g2) (Nat.ne_of_lt dslI₂), ?s2, by simp only [List.length_cons] at hb₂; simp; lia, by rw [← hR₂, List.foldl_cons, hf], mem_off (mem_setAt_of g4 (Nat.ne_of_gt dslI)) (Nat.ne_of_lt dII₂), rfl⟩, mem_off (mem_setAt_of g5 dws) (Nat.ne_of_lt dwaI₂)⟩⟩
          case s1 => rw [List.map_append]; exact strs_snoc hfs₂
          case s2 => rw [List.map_append]; exact strs_snoc hss₂
        · (rename News _ _ _ ((I₂, it₂) :: n₂) => KN)
          have hf : frontAdd (i + 1) acc₂ w₁ = acc₂ := by
            unfold frontAdd
            rw [if_neg (fun z => by lia)]
          refine LTurn.intro (frr (by assumption) (by (intro z; by_cases h1 : z = (nm "word"); (focus (subst h1; rfl)); simp only [if_neg h1]))) KN (.head _) ⟨mem_off (.tail _ hwl₂) (Nat.ne_of_lt dwaI₂), ⟨⟨Wr, acc₂, fvs₂, fe₂, svs₂, se₂, some (.str (S w₁) t₁), hsr, fun w hw => hok w (List.mem_cons_of_mem _ hw), mem_off (.tail _ hfl₂) (Nat.ne_of_lt dflI₂), hfs₂, mem_off (.tail _ hsl₂) (Nat.ne_of_lt dslI₂), hss₂, by simp only [List.length_cons] at hb₂; lia, by rw [← hR₂, List.foldl_cons, hf], mem_off (.tail _ hit) (Nat.ne_of_lt dII₂), rfl⟩, mem_off (.tail _ hwl₂) (Nat.ne_of_lt dwaI₂)⟩⟩
    case done2 =>
      intro m₂ n₂ h₂ tk₂ x9 F₂ N₂
      refine hideGoal fun G9 back9 => ?_
      obtain ⟨⟨Wr, acc₂, fvs₂, fe₂, svs₂, se₂, u3, hsr, hok, hfl₂, hfs₂, hsl₂, hss₂, hb₂, hR₂, hit, rfl⟩, hwl₂⟩ := x9
      cases Wr with
      | cons => cases hsr
      | nil =>
      (try dsimp only at F₂)
      refine back9 ?_
      clear back9 G9
      k_steps
      (rename News _ _ _ n₂ => KN)
      refine LTurn.intro (frr (by assumption) (by (intro z; by_cases h1 : z = (nm "word"); (focus (subst h1; rfl)); by_cases h2 : z = (nm "size"); (focus (subst h2; rfl)); simp only [if_neg h1, if_neg h2]))) KN hit ⟨⟨acc₂, fvs₂, fe₂, svs₂, se₂, u3, some (.int (1 + (i : Int)) t), mem_off hfl₂ (Nat.ne_of_lt dflI), hfs₂, mem_off hsl₂ (Nat.ne_of_lt dslI), hss₂, by simp only [List.length_nil] at hb₂; lia, ?_, rfl⟩, mem_off hwl₂ (Nat.ne_of_lt dwaI)⟩
      rw [List.range_succ, List.foldl_append, ← hacc, List.foldl_cons, List.foldl_nil, ← hR₂]; rfl
  case done =>
    intro m₁ n₁ h tk x9 F₁ N₁
    refine hideGoal fun G9 back9 => ?_
    obtain ⟨⟨acc, fvs, fe, svs, se, u1, u2, hfl, hfs, hsl, hss, hb, hacc, rfl⟩, hwl⟩ := x9
    (try dsimp only at F₁)
    refine back9 ?_
    clear back9 G9
    k_steps
    exact hret _ _ _ _ (by assumption) (by assumption) (by assumption) ⟨fl, fvs, fe, rfl, by rw [hacc] at hfs; exact hfs, hfl, hwl⟩
end Mine88
end

-- part Q1
section
open PySem PySem.W PyProof.Rows PySem.Spec PySem.Calls
set_option maxRecDepth 100000
set_option maxHeartbeats 8000000
namespace Mine88
/-! the plain law -/
noncomputable abbrev low (p : List Nat) : List Nat := p.map lowC
/-- u is the front of one of the words (all in small letters) -/
noncomputable def Pre (W : List (List Nat)) (u : List Nat) : Bool := W.any fun w => (low w).take u.length == u
/-- the longest end that is a front -/
noncomputable def suf (W : List (List Nat)) : List Nat → List Nat
  | [] => []
  | c :: r => if Pre W (c :: r) then c :: r else suf W r
/-- all ends that are fronts -/
noncomputable def endsL (W : List (List Nat)) : List Nat → List (List Nat)
  | [] => [[]]
  | c :: r => if Pre W (c :: r) then (c :: r) :: endsL W r else endsL W r
theorem pre_front {W : List (List Nat)} {u : List Nat} {c : Nat} (h : Pre W (u ++ [c]) = true) : Pre W u = true := by
  obtain ⟨w, hw, e⟩ := List.any_eq_true.mp h
  refine List.any_eq_true.mpr ⟨w, hw, ?_⟩
  simp only [beq_iff_eq] at e ⊢
  have e2 := congrArg (List.take u.length) e
  rw [List.take_take, List.length_append, List.take_left] at e2
  rw [show min u.length (u.length + [c].length) = u.length by simp] at e2
  exact e2
theorem suf_pre {W : List (List Nat)} {x : List Nat} (h : Pre W x = true) : suf W x = x := by
  cases x with
  | nil => rfl
  | cons c r => simp [suf, h]
theorem suf_step (W : List (List Nat)) (c : Nat) : ∀ x : List Nat, suf W (suf W x ++ [c]) = suf W (x ++ [c])
  | [] => rfl
  | a :: r => by
    by_cases h : Pre W (a :: r) = true
    · rw [suf_pre h]
    · have h1 : suf W (a :: r) = suf W r := by simp [suf, h]
      have h2 : suf W (a :: r ++ [c]) = suf W (r ++ [c]) := by
        have : ¬ Pre W (a :: (r ++ [c])) = true := fun z => h (pre_front (u := a :: r) z)
        rw [List.cons_append]
        simp [suf, this]
      rw [h1, h2]
      exact suf_step W c r
theorem ends_suf (W : List (List Nat)) : ∀ x : List Nat, endsL W (suf W x) = endsL W x
  | [] => rfl
  | a :: r => by
    by_cases h : Pre W (a :: r) = true
    · rw [suf_pre h]
    · have h1 : suf W (a :: r) = suf W r := by simp [suf, h]
      have h2 : endsL W (a :: r) = endsL W r := by simp [endsL, h]
      rw [h1, h2]
      exact ends_suf W r
theorem suf_len (W : List (List Nat)) : ∀ x : List Nat, (suf W x).length ≤ x.length
  | [] => Nat.le_refl _
  | a :: r => by
    have := suf_len W r
    by_cases h : Pre W (a :: r) = true
    · rw [suf_pre h]; exact Nat.le_refl _
    · have h1 : suf W (a :: r) = suf W r := by simp [suf, h]
      rw [h1]; simp only [List.length_cons]; lia
theorem suf_is_pre {W : List (List Nat)} (hW : W ≠ []) : ∀ x : List Nat, Pre W (suf W x) = true
  | [] => by
    cases W with
    | nil => exact absurd rfl hW
    | cons w r => simp [Pre, suf]
  | a :: r => by
    by_cases h : Pre W (a :: r) = true
    · rw [suf_pre h]; exact h
    · have h1 : suf W (a :: r) = suf W r := by simp [suf, h]
      rw [h1]; exact suf_is_pre hW r
end Mine88
end

-- part Q2
section
open PySem PySem.W PyProof.Rows PySem.Spec PySem.Calls
set_option maxRecDepth 100000
set_option maxHeartbeats 8000000
namespace Mine88
theorem okWord_iff {w : List Nat} : okWord w = true ↔ w.all isLetter = true ∧ 1 ≤ w.length ∧ w.length ≤ 4 := by
  unfold okWord; simp only [Bool.and_eq_true, decide_eq_true_eq]; exact ⟨fun h => ⟨h.1.1, h.1.2, h.2⟩, fun h => ⟨⟨h.1, h.2.1⟩, h.2.2⟩⟩
/-- what a step of the tree keeps, the words keep -/
theorem treeGo_keeps {P : Tab × List PySem.Str → Prop} (step : ∀ (q r : List Nat) (c : Nat) (s : Tab × List PySem.Str), okWord (q ++ c :: r) = true → P s → P (setTab s.1 (q ++ [c]) (S r), s.2 ++ [setVal s.1 (q ++ [c]) (S r)])) :
    ∀ (r q : List Nat) (s : Tab × List PySem.Str), okWord (q ++ r) = true → P s → P (treeGo q r s)
  | [], q, s, _, h => h
  | c :: r, q, s, hw, h => by
    have e : (q ++ [c]) ++ r = q ++ c :: r := by simp
    exact treeGo_keeps step r (q ++ [c]) _ (by rw [e]; exact hw) (step q r c s hw h)
theorem treeAll_keeps {P : Tab × List PySem.Str → Prop} (step : ∀ (q r : List Nat) (c : Nat) (s : Tab × List PySem.Str), okWord (q ++ c :: r) = true → P s → P (setTab s.1 (q ++ [c]) (S r), s.2 ++ [setVal s.1 (q ++ [c]) (S r)])) :
    ∀ (W : List (List Nat)) (s : Tab × List PySem.Str), (∀ w ∈ W, okWord w = true) → P s → P (treeAll W s)
  | [], s, _, h => h
  | w :: W, s, hw, h => treeAll_keeps step W _ (fun v hv => hw v (List.mem_cons_of_mem _ hv)) (treeGo_keeps step w [] s (hw w (List.mem_cons_self ..)) h)
theorem front_ok {q r : List Nat} {c : Nat} (h : okWord (q ++ c :: r) = true) : okWord (q ++ [c]) = true := by
  rw [okWord_iff] at h ⊢
  simp only [List.all_append, List.all_cons, Bool.and_eq_true, List.length_append, List.length_cons, List.all_nil, List.length_nil] at h ⊢
  exact ⟨⟨h.1.1, h.1.2.1, trivial⟩, by lia, by lia⟩
theorem mem_setTab {T : Tab} {p : List Nat} {v : PySem.Str} {kv : List Nat × PySem.Str} (h : kv ∈ setTab T p v) : kv ∈ T ∨ kv = (p, v) := by
  unfold setTab at h
  split at h
  · rcases List.mem_append.mp h with h | h
    · exact .inl h
    · exact .inr (List.mem_singleton.mp h)
  · exact .inl h
theorem tree_ok {W : List (List Nat)} (hW : ∀ w ∈ W, okWord w = true) : ∀ kv ∈ (treeAll W ([], [])).1, okWord kv.1 = true := by
  refine treeAll_keeps (P := fun s => ∀ kv ∈ s.1, okWord kv.1 = true) ?_ W ([], []) hW (by simp)
  intro q r c s hw h kv hk
  rcases mem_setTab hk with hk | rfl
  · exact h kv hk
  · exact front_ok hw
end Mine88
end

-- part Q3
section
open PySem PySem.W PyProof.Rows PySem.Spec PySem.Calls
set_option maxRecDepth 100000
set_option maxHeartbeats 8000000
namespace Mine88
theorem getT_low {T : Tab} {p u : List Nat} (h : low p = low u) : getT T p = getT T u := by
  unfold getT
  show (T.find? fun kv => low kv.1 == low p).map _ = (T.find? fun kv => low kv.1 == low u).map _
  rw [h]
theorem getT_snoc (T : Tab) (p u : List Nat) (v : PySem.Str) : getT (T ++ [(p, v)]) u = match getT T u with | some y => some y | none => if low p = low u then some v else none := by
  unfold getT
  rw [List.find?_append]
  cases e : T.find? (fun kv => kv.1.map lowC == u.map lowC) with
  | some kv => rfl
  | none =>
    simp only [Option.none_or, Option.map_none, List.find?_cons, List.find?_nil]
    by_cases h : low p = low u
    · have h' : (p.map lowC == u.map lowC) = true := beq_iff_eq.mpr h
      rw [h', if_pos h]; rfl
    · have h' : (p.map lowC == u.map lowC) = false := beq_eq_false_iff_ne.mpr h
      rw [h', if_neg h]; rfl
theorem getT_set (T : Tab) (p u : List Nat) (v : PySem.Str) : getT (setTab T p v) u = match getT T u with | some y => some y | none => if low p = low u then some v else none := by
  unfold setTab
  cases e : getT T p with
  | none => rw [if_pos (show (none : Option PySem.Str).isNone = true from rfl)]; exact getT_snoc T p u v
  | some y =>
    rw [if_neg (by simp)]
    cases e2 : getT T u with
    | some z => rfl
    | none =>
      by_cases h : low p = low u
      · rw [getT_low h, e2] at e; cases e
      · simp only [if_neg h]
end Mine88
end

-- part Q4
section
open PySem PySem.W PyProof.Rows PySem.Spec PySem.Calls
set_option maxRecDepth 100000
set_option maxHeartbeats 8000000
namespace Mine88
noncomputable def Hit (w u : List Nat) : Bool := (low w).take u.length == low u
theorem hit_len {w u : List Nat} (h : Hit w u = true) : u.length ≤ w.length := by
  have := congrArg List.length (beq_iff_eq.mp h)
  simp only [List.length_take, List.length_map] at this
  lia
theorem go_get (u : List Nat) : ∀ (r q : List Nat) (s : Tab × List PySem.Str), getT (treeGo q r s).1 u = match getT s.1 u with | some y => some y | none => if q.length < u.length ∧ Hit (q ++ r) u = true then some (S ((q ++ r).drop u.length)) else none
  | [], q, s => by
    have hn : ¬ (q.length < u.length ∧ Hit (q ++ []) u = true) := by
      rintro ⟨h1, h2⟩
      have := hit_len h2
      simp at this; lia
    show getT s.1 u = _
    rw [if_neg hn]
    cases getT s.1 u <;> rfl
  | c :: r, q, s => by
    have ih := go_get u r (q ++ [c]) (setTab s.1 (q ++ [c]) (S r), s.2 ++ [setVal s.1 (q ++ [c]) (S r)])
    have e : (q ++ [c]) ++ r = q ++ c :: r := by simp
    rw [e] at ih
    show getT (treeGo (q ++ [c]) r _).1 u = _
    rw [ih]
    dsimp only
    rw [getT_set]
    cases h0 : getT s.1 u with
    | some y => rfl
    | none =>
      dsimp only
      have hl : (q ++ [c]).length = q.length + 1 := by simp
      by_cases h1 : low (q ++ [c]) = low u
      · rw [if_pos h1]
        dsimp only
        have hlu : u.length = q.length + 1 := by
          have := congrArg List.length h1
          simp only [List.length_map] at this
          lia
        have hh : Hit (q ++ c :: r) u = true := by
          refine beq_iff_eq.mpr ?_
          rw [← h1, hlu, ← e]
          show ((q ++ [c] ++ r).map lowC).take (q.length + 1) = _
          rw [List.map_append, ← hl, show (q ++ [c]).length = ((q ++ [c]).map lowC).length by simp, List.take_left]
        rw [if_pos ⟨by lia, hh⟩, hlu, ← hl, ← e, List.drop_left]
      · rw [if_neg h1]
        dsimp only
        by_cases h2 : q.length < u.length ∧ Hit (q ++ c :: r) u = true
        · rw [if_pos h2]
          by_cases h3 : u.length = q.length + 1
          · exfalso
            apply h1
            have hh := beq_iff_eq.mp h2.2
            rw [← hh, h3, ← e]
            show _ = ((q ++ [c] ++ r).map lowC).take (q.length + 1)
            rw [List.map_append, ← hl, show (q ++ [c]).length = ((q ++ [c]).map lowC).length by simp, List.take_left]
          · rw [if_pos ⟨by lia, h2.2⟩]
        · rw [if_neg h2, if_neg (fun z => h2 ⟨by lia, z.2⟩)]
theorem all_get (u : List Nat) : ∀ (W : List (List Nat)) (s : Tab × List PySem.Str), getT (treeAll W s).1 u = match getT s.1 u with | some y => some y | none => if u = [] then none else (W.find? fun w => Hit w u).map fun w => S (w.drop u.length)
  | [], s => by
    show getT s.1 u = _
    cases getT s.1 u with
    | some y => rfl
    | none =>
      dsimp only
      by_cases hu : u = []
      · rw [if_pos hu]
      · rw [if_neg hu]; rfl
  | w :: W, s => by
    have ih := all_get u W (treeGo [] w s)
    show getT (treeAll W (treeGo [] w s)).1 u = _
    rw [ih, go_get]
    cases h0 : getT s.1 u with
    | some y => rfl
    | none =>
      dsimp only
      rw [List.nil_append]
      by_cases hu : u = []
      · rw [if_pos hu, if_neg (by subst hu; simp)]
        dsimp only
        rw [if_pos hu]
      · rw [if_neg hu]
        have hpos : ([] : List Nat).length < u.length := by
          cases u with
          | nil => exact absurd rfl hu
          | cons => simp
        by_cases hh : Hit w u = true
        · rw [if_pos ⟨hpos, hh⟩, List.find?_cons_of_pos (by exact hh)]; dsimp only; rw [if_neg hu]; rfl
        · rw [if_neg (fun z => hh z.2), List.find?_cons_of_neg (by exact hh)]
          dsimp only
          rw [if_neg hu]
end Mine88
end

-- part Q5
section
open PySem PySem.W PyProof.Rows PySem.Spec PySem.Calls
set_option maxRecDepth 100000
set_option maxHeartbeats 8000000
namespace Mine88
/-- a later table holds all that an earlier one does -/
noncomputable def Ext (T T' : Tab) : Prop := ∀ u y, getT T u = some y → getT T' u = some y
theorem set_val (T : Tab) (p : List Nat) (v : PySem.Str) : getT (setTab T p v) p = some (setVal T p v) := by
  rw [getT_set]
  unfold setVal
  cases getT T p with
  | some y => rfl
  | none => dsimp only; rw [if_pos rfl]; rfl
theorem set_ext (T : Tab) (p : List Nat) (v : PySem.Str) : Ext T (setTab T p v) := by
  intro u y h
  rw [getT_set, h]
theorem go_ext : ∀ (r q : List Nat) (s : Tab × List PySem.Str), Ext s.1 (treeGo q r s).1
  | [], q, s, u, y, h => h
  | c :: r, q, s, u, y, h => go_ext r (q ++ [c]) _ u y (set_ext _ _ _ u y h)
theorem all_ext : ∀ (W : List (List Nat)) (s : Tab × List PySem.Str), Ext s.1 (treeAll W s).1
  | [], s, u, y, h => h
  | w :: W, s, u, y, h => all_ext W _ u y (go_ext w [] s u y h)
noncomputable def valAt (Tf : Tab) (u : List Nat) : PySem.Str := (getT Tf u).getD (S [])
theorem go_told (Tf : Tab) : ∀ (r q : List Nat) (s : Tab × List PySem.Str), Ext (treeGo q r s).1 Tf → (treeGo q r s).2 = s.2 ++ (List.range r.length).map fun k => valAt Tf (q ++ r.take (k + 1))
  | [], q, s, h => by simp [treeGo]
  | c :: r, q, s, h => by
    have ih := go_told Tf r (q ++ [c]) (setTab s.1 (q ++ [c]) (S r), s.2 ++ [setVal s.1 (q ++ [c]) (S r)]) h
    show (treeGo (q ++ [c]) r _).2 = _
    rw [ih]
    have hv : valAt Tf (q ++ [c]) = setVal s.1 (q ++ [c]) (S r) := by
      unfold valAt
      rw [h _ _ (go_ext r (q ++ [c]) _ _ _ (set_val s.1 (q ++ [c]) (S r)))]; rfl
    rw [List.length_cons, List.range_succ_eq_map, List.map_cons, List.map_map, List.append_assoc]
    congr 1
    show _ :: _ = _ :: _
    congr 1
    · rw [← hv]; simp
    · apply List.map_congr_left
      intro k _
      simp [Function.comp]
theorem all_told (Tf : Tab) : ∀ (W : List (List Nat)) (s : Tab × List PySem.Str), Ext (treeAll W s).1 Tf → (treeAll W s).2 = s.2 ++ W.flatMap fun w => (List.range w.length).map fun k => valAt Tf (w.take (k + 1))
  | [], s, h => by simp [treeAll]
  | w :: W, s, h => by
    have ih := all_told Tf W (treeGo [] w s) h
    show (treeAll W (treeGo [] w s)).2 = _
    rw [ih, go_told Tf w [] s (fun u y z => h u y (all_ext W _ u y z))]
    simp
end Mine88
end

-- part Q6
section
open PySem PySem.W PyProof.Rows PySem.Spec PySem.Calls
set_option maxRecDepth 100000
set_option maxHeartbeats 8000000
namespace Mine88
noncomputable def addKey (acc : List (List Nat)) (p : List Nat) : List (List Nat) := if acc.any (fun x => low x == low p) then acc else acc ++ [p]
theorem getT_isNone (T : Tab) (p : List Nat) : (getT T p).isNone = !((T.map (·.1)).any fun x => low x == low p) := by
  unfold getT
  induction T with
  | nil => rfl
  | cons kv r ih =>
    simp only [List.map_cons, List.any_cons, List.find?_cons]
    cases h : (kv.1.map lowC == p.map lowC) with
    | true => simp
    | false => simpa using ih
theorem setTab_keys (T : Tab) (p : List Nat) (v : PySem.Str) : (setTab T p v).map (·.1) = addKey (T.map (·.1)) p := by
  unfold setTab addKey
  rw [getT_isNone]
  cases (T.map (·.1)).any fun x => low x == low p with
  | true => rfl
  | false => simp
noncomputable def lenIs (k : Nat) (p : List Nat) : Bool := p.length == k
theorem addKey_at (k : Nat) (acc : List (List Nat)) (p : List Nat) : (addKey acc p).filter (lenIs k) = if p.length = k then addKey (acc.filter (lenIs k)) p else acc.filter (lenIs k) := by
  have key : p.length = k → (acc.filter (lenIs k)).any (fun x => low x == low p) = acc.any fun x => low x == low p := by
    intro hk
    rw [Bool.eq_iff_iff, List.any_eq_true, List.any_eq_true]
    constructor
    · rintro ⟨x, hx, e⟩; exact ⟨x, (List.mem_filter.mp hx).1, e⟩
    · rintro ⟨x, hx, e⟩
      refine ⟨x, List.mem_filter.mpr ⟨hx, ?_⟩, e⟩
      have := congrArg List.length (beq_iff_eq.mp e)
      simp only [List.length_map] at this
      exact beq_iff_eq.mpr (this.trans hk)
  unfold addKey
  by_cases hk : p.length = k
  · rw [if_pos hk, key hk]
    split
    · rfl
    · rw [List.filter_append]; simp [lenIs, hk]
  · rw [if_neg hk]
    split
    · rfl
    · rw [List.filter_append]; simp [lenIs, hk]
theorem go_keys (k : Nat) : ∀ (r q : List Nat) (s : Tab × List PySem.Str), ((treeGo q r s).1.map (·.1)).filter (lenIs k) = if q.length < k ∧ k ≤ q.length + r.length then addKey ((s.1.map (·.1)).filter (lenIs k)) ((q ++ r).take k) else (s.1.map (·.1)).filter (lenIs k)
  | [], q, s => by
    rw [if_neg (by simp only [List.length_nil]; omega)]; rfl
  | c :: r, q, s => by
    have ih := go_keys k r (q ++ [c]) (setTab s.1 (q ++ [c]) (S r), s.2 ++ [setVal s.1 (q ++ [c]) (S r)])
    have e : (q ++ [c]) ++ r = q ++ c :: r := by simp
    have hl : (q ++ [c]).length = q.length + 1 := by simp
    show ((treeGo (q ++ [c]) r _).1.map (·.1)).filter (lenIs k) = _
    rw [ih, e, hl]
    dsimp only
    rw [setTab_keys, addKey_at, hl]
    by_cases h1 : q.length + 1 = k
    · rw [if_neg (by omega), if_pos h1, if_pos (by simp only [List.length_cons]; omega)]
      congr 1
      rw [← h1, ← hl, ← e, List.take_left]
    · rw [if_neg h1]
      by_cases h2 : q.length + 1 < k ∧ k ≤ q.length + 1 + r.length
      · rw [if_pos h2, if_pos (by simp only [List.length_cons]; omega)]
      · rw [if_neg h2, if_neg (by simp only [List.length_cons]; omega)]
end Mine88
end

-- part Q7
section
open PySem PySem.W PyProof.Rows PySem.Spec PySem.Calls
set_option maxRecDepth 100000
set_option maxHeartbeats 8000000
namespace Mine88
noncomputable def frontStep (k : Nat) (acc : List (List Nat)) (w : List Nat) : List (List Nat) := if 0 < k ∧ k ≤ w.length then addKey acc (w.take k) else acc
theorem all_keys (k : Nat) : ∀ (W : List (List Nat)) (s : Tab × List PySem.Str), ((treeAll W s).1.map (·.1)).filter (lenIs k) = W.foldl (frontStep k) ((s.1.map (·.1)).filter (lenIs k))
  | [], s => rfl
  | w :: W, s => by
    show ((treeAll W (treeGo [] w s)).1.map (·.1)).filter (lenIs k) = _
    rw [all_keys k W, go_keys, List.foldl_cons]
    congr 1
    unfold frontStep
    simp only [List.length_nil, Nat.zero_add, List.nil_append]
theorem keysAt_fold (k : Nat) (W : List (List Nat)) : keysAt k (treeAll W ([], [])).1 = W.foldl (frontStep k) [] := all_keys k W ([], [])
/-- no two keys alike but for the letters' size -/
noncomputable def Apart (l : List (List Nat)) : Prop := l.Pairwise fun p q => low p ≠ low q
theorem addKey_apart {acc : List (List Nat)} {p : List Nat} (h : Apart acc) : Apart (addKey acc p) := by
  unfold addKey
  split
  · exact h
  · rename_i hn
    refine List.pairwise_append.mpr ⟨h, by simp, ?_⟩
    intro x hx y hy e
    rw [List.mem_singleton.mp hy] at e
    exact hn (List.any_eq_true.mpr ⟨x, hx, beq_iff_eq.mpr e⟩)
theorem tree_apart {W : List (List Nat)} (hW : ∀ w ∈ W, okWord w = true) : Apart ((treeAll W ([], [])).1.map (·.1)) := by
  refine treeAll_keeps (P := fun s => Apart (s.1.map (·.1))) ?_ W ([], []) hW List.Pairwise.nil
  intro q r c s hw h
  show Apart ((setTab s.1 (q ++ [c]) (S r)).map (·.1))
  rw [setTab_keys]
  exact addKey_apart h
end Mine88
end

-- part Q8
section
open PySem PySem.W PyProof.Rows PySem.Spec PySem.Calls
set_option maxRecDepth 100000
set_option maxHeartbeats 8000000
namespace Mine88
noncomputable def Hd1 (T : Tab) : Prop := ∃ kv T', T = kv :: T' ∧ kv.1.length = 1
theorem set_hd {T : Tab} (p : List Nat) (v : PySem.Str) (h : Hd1 T) : Hd1 (setTab T p v) := by
  obtain ⟨kv, T', rfl, e⟩ := h
  unfold setTab
  split
  · exact ⟨kv, _, rfl, e⟩
  · exact ⟨kv, _, rfl, e⟩
theorem tree_hd {W : List (List Nat)} (hW : ∀ w ∈ W, okWord w = true) (hn : W ≠ []) : Hd1 (treeAll W ([], [])).1 := by
  cases W with
  | nil => exact absurd rfl hn
  | cons w W =>
    have ok := okWord_iff.mp (hW w (List.mem_cons_self ..))
    cases w with
    | nil => simp at ok
    | cons c r =>
      show Hd1 (treeAll W (treeGo ([] ++ [c]) r _)).1
      have e : ([c] : List Nat) ++ r = c :: r := rfl
      refine treeAll_keeps (P := fun s => Hd1 s.1) (fun q r c s _ h => set_hd _ _ h) W _ (fun v hv => hW v (List.mem_cons_of_mem _ hv)) ?_
      refine treeGo_keeps (P := fun s => Hd1 s.1) (fun q r c s _ h => set_hd _ _ h) r [c] _ (by rw [e]; exact hW _ (List.mem_cons_self ..)) ?_
      exact ⟨([c], S r), [], rfl, rfl⟩
theorem tree_min {W : List (List Nat)} (hW : ∀ w ∈ W, okWord w = true) (hn : W ≠ []) : ∀ k ∈ depths (treeAll W ([], [])).1, (depths (treeAll W ([], [])).1).headD 0 ≤ k := by
  obtain ⟨kv, T', e, h1⟩ := tree_hd hW hn
  have hok := tree_ok hW
  intro k hk
  obtain ⟨kv2, hm, rfl⟩ := List.mem_map.mp hk
  have := (okWord_iff.mp (hok kv2 hm)).2.1
  rw [e]
  show (kv.1.length : Int) ≤ _
  lia
end Mine88
end

-- part Q9
section
open PySem PySem.W PyProof.Rows PySem.Spec PySem.Calls
set_option maxRecDepth 100000
set_option maxHeartbeats 8000000
namespace Mine88
theorem pre_hit {W : List (List Nat)} {u : List Nat} : Pre W (low u) = W.any fun w => Hit w u := by
  unfold Pre Hit
  simp only [List.length_map]
theorem tree_mem {W : List (List Nat)} (u : List Nat) : (getT (treeAll W ([], [])).1 u).isSome = (!u.isEmpty && Pre W (low u)) := by
  rw [all_get u W ([], []), pre_hit]
  rw [show getT (([], []) : Tab × List PySem.Str).1 u = none from rfl]
  dsimp only
  cases u with
  | nil => rfl
  | cons c r =>
    rw [if_neg (by simp)]
    simp only [Option.isSome_map, List.find?_isSome, List.isEmpty_cons, Bool.not_false, Bool.true_and]
    rw [Bool.eq_iff_iff, List.find?_isSome, List.any_eq_true]
theorem getT_del (T : Tab) (p u : List Nat) : getT (delTab T p) u = if low p = low u then none else getT T u := by
  unfold getT delTab
  induction T with
  | nil => simp
  | cons kv r ih =>
    rw [List.filter_cons]
    by_cases h1 : low kv.1 = low p
    · have e : (kv.1.map lowC == p.map lowC) = true := beq_iff_eq.mpr h1
      rw [e]
      simp only [Bool.not_true, Bool.false_eq_true, if_false]
      rw [ih]
      by_cases h2 : low p = low u
      · rw [if_pos h2, if_pos h2]
      · rw [if_neg h2, if_neg h2, List.find?_cons_of_neg]
        simp only [beq_iff_eq]
        exact fun z => h2 (h1.symm.trans z)
    · have e : (kv.1.map lowC == p.map lowC) = false := beq_eq_false_iff_ne.mpr h1
      rw [e]
      simp only [Bool.not_false, if_true]
      rw [List.find?_cons, List.find?_cons]
      cases h3 : (kv.1.map lowC == u.map lowC) with
      | true =>
        have h4 : low kv.1 = low u := beq_iff_eq.mp h3
        rw [if_neg (fun z => h1 (h4.trans z.symm))]
      | false => exact ih
end Mine88
end

-- part Q10
section
open PySem PySem.W PyProof.Rows PySem.Spec PySem.Calls
set_option maxRecDepth 100000
set_option maxHeartbeats 8000000
namespace Mine88
theorem getT_put (T : Tab) (p u : List Nat) (v : PySem.Str) : getT (putTab T p v) u = if low p = low u then some v else getT T u := by
  unfold putTab
  rw [getT_snoc, getT_del]
  by_cases h : low p = low u
  · simp only [if_pos h]
  · simp only [if_neg h]
    cases getT T u <;> rfl
/-- the table while its last loop runs: all keys are there; those that are not left hold their links -/
structure Half (W : List (List Nat)) (T : Tab) (left : List (List Nat)) : Prop where
  mem : ∀ u, (getT T u).isSome = (!u.isEmpty && Pre W (low u))
  link : ∀ u, u ≠ [] → Pre W (low u) = true → (∀ p ∈ left, low p ≠ low u) → ∃ f, getT T u = some (path f) ∧ f.all isLetter = true ∧ low f = suf W (low u).tail
theorem low_snoc (f : List Nat) (c : Nat) : low (f ++ [c]) = low f ++ [lowC c] := by simp [low]
theorem walk_some {W : List (List Nat)} (hW : W ≠ []) {T : Tab} {left : List (List Nat)} (H : Half W T left) {m : Nat} (hm : ∀ p ∈ left, m ≤ p.length) {c : Nat} (hc : isLetter c = true) :
    ∀ (n : Nat) (f : List Nat), f.length ≤ n → f.length < m → f.length ≤ 4 → f.all isLetter = true → Pre W (low f) = true → ∃ k r, Walk T c k (some f) r ∧ r.all isLetter = true ∧ r.length ≤ f.length + 1 ∧ low r = suf W (low f ++ [lowC c]) := by
  intro n
  induction n with
  | zero =>
    intro f hn hfm hf4 hfl hp
    have e : f = [] := List.length_eq_zero_iff.mp (by lia)
    subst e
    have hmem := H.mem [c]
    by_cases hh : Pre W [lowC c] = true
    · have h1 : (getT T ([] ++ [c])).isSome = true := by rw [List.nil_append, hmem]; simpa [low] using hh
      obtain ⟨v, hv⟩ := Option.isSome_iff_exists.mp h1
      exact ⟨0, [] ++ [c], Walk.hit hfl hf4 hv, by simp [hc], by simp, by rw [low_snoc]; exact (suf_pre hh).symm⟩
    · have h1 : getT T ([] ++ [c]) = none := by
        rw [List.nil_append]; refine Option.not_isSome_iff_eq_none.mp ?_; rw [hmem]; simpa [low] using hh
      have h2 : getT T [] = none := by refine Option.not_isSome_iff_eq_none.mp ?_; rw [H.mem]; simp
      exact ⟨1, [], Walk.fall0 hfl hf4 h1 h2, rfl, by simp, by show [] = suf W [lowC c]; simp [suf, hh]⟩
  | succ n ih =>
    intro f hn hfm hf4 hfl hp
    by_cases he : f.length ≤ n
    · exact ih f he hfm hf4 hfl hp
    have hmem := H.mem (f ++ [c])
    rw [low_snoc] at hmem
    have hne : f ≠ [] := by intro e; subst e; simp at he
    by_cases hh : Pre W (low f ++ [lowC c]) = true
    · have h1 : (getT T (f ++ [c])).isSome = true := by rw [hmem]; simp [hh]
      obtain ⟨v, hv⟩ := Option.isSome_iff_exists.mp h1
      exact ⟨0, f ++ [c], Walk.hit hfl hf4 hv, by simp [hfl, hc], by simp, by rw [low_snoc]; exact (suf_pre hh).symm⟩
    · have h1 : getT T (f ++ [c]) = none := by
        refine Option.not_isSome_iff_eq_none.mp ?_; rw [hmem]; simp [hh]
      obtain ⟨g, hg, hgl, hgs⟩ := H.link f hne hp (fun p hp' e => by
        have h2 := hm p hp'
        have h3 := congrArg List.length e
        simp only [List.length_map] at h3
        lia)
      have hglen : g.length + 1 ≤ f.length := by
        have h2 := congrArg List.length hgs
        have h3 := suf_len W (low f).tail
        simp only [List.length_map, List.length_tail] at h2 h3
        have : f.length ≠ 0 := fun z => hne (List.length_eq_zero_iff.mp z)
        lia
      obtain ⟨k, r, hw, hr, hrl, hrs⟩ := ih g (by lia) (by lia) (by lia) hgl (by rw [hgs]; exact suf_is_pre hW _)
      refine ⟨k + 1, r, Walk.fall hfl hf4 h1 hg hw, hr, by lia, ?_⟩
      rw [hrs, hgs, suf_step]
      cases f with
      | nil => exact absurd rfl hne
      | cons a f =>
        show suf W (low f ++ [lowC c]) = suf W (lowC a :: (low f ++ [lowC c]))
        have hh' : ¬ Pre W (lowC a :: (low f ++ [lowC c])) = true := hh
        simp only [suf, if_neg hh']
end Mine88
end

-- part Q11
section
open PySem PySem.W PyProof.Rows PySem.Spec PySem.Calls
set_option maxRecDepth 100000
set_option maxHeartbeats 8000000
namespace Mine88
theorem half_put {W : List (List Nat)} {T : Tab} {p : List Nat} {left : List (List Nat)} {r : List Nat} (H : Half W T (p :: left)) (hp : p ≠ []) (hpre : Pre W (low p) = true) (hr : r.all isLetter = true) (hrs : low r = suf W (low p).tail) : Half W (putTab T p (path r)) left := by
  refine ⟨fun u => ?_, fun u hu hup hl => ?_⟩
  · rw [getT_put]
    by_cases h : low p = low u
    · rw [if_pos h]
      have hu : u ≠ [] := by
        intro e; subst e
        have := congrArg List.length h
        simp only [List.length_map, List.length_nil] at this
        exact hp (List.length_eq_zero_iff.mp this)
      rw [← h, hpre]
      cases u with
      | nil => exact absurd rfl hu
      | cons => rfl
    · rw [if_neg h]; exact H.mem u
  · rw [getT_put]
    by_cases h : low p = low u
    · rw [if_pos h]; exact ⟨r, rfl, hr, by rw [hrs, h]⟩
    · rw [if_neg h]
      exact H.link u hu hup fun z hz => by
        rcases List.mem_cons.mp hz with rfl | hz
        · exact h
        · exact hl z hz
theorem fix_exists {W : List (List Nat)} (hW : W ≠ []) : ∀ (left : List (List Nat)) (T : Tab), Half W T left → left.Pairwise (fun p q => p.length ≤ q.length) → (∀ p ∈ left, okWord p = true ∧ Pre W (low p) = true) → ∃ Tf, Fix T left Tf ∧ Half W Tf []
  | [], T, H, _, _ => ⟨T, .nil, H⟩
  | p :: left, T, H, hs, hk => by
    obtain ⟨hok, hpre⟩ := hk p (List.mem_cons_self ..)
    obtain ⟨hpl, hp1, hp4⟩ := okWord_iff.mp hok
    have hp : p ≠ [] := by intro e; subst e; simp at hp1
    obtain ⟨q, c, rfl⟩ : ∃ q c, p = q ++ [c] := ⟨p.dropLast, p.getLast hp, (List.dropLast_concat_getLast hp).symm⟩
    simp only [List.all_append, List.all_cons, List.all_nil, Bool.and_true, Bool.and_eq_true] at hpl
    obtain ⟨hql, hcl⟩ := hpl
    have hq3 : q.length ≤ 3 := by simp only [List.length_append, List.length_cons, List.length_nil] at hp4; lia
    have hm : ∀ z ∈ (q ++ [c]) :: left, (q ++ [c]).length ≤ z.length := by
      intro z hz
      rcases List.mem_cons.mp hz with rfl | hz
      · exact Nat.le_refl _
      · exact (List.pairwise_cons.mp hs).1 z hz
    have next := fun (r : List Nat) (hr : r.all isLetter = true) (hrs : low r = suf W (low (q ++ [c])).tail) => fix_exists hW left (putTab T (q ++ [c]) (path r)) (half_put H hp hpre hr hrs) (List.pairwise_cons.mp hs).2 (fun z hz => hk z (List.mem_cons_of_mem _ hz))
    by_cases hq : q = []
    · subst hq
      obtain ⟨Tf, h1, h2⟩ := next [] rfl rfl
      have hg : getT T [] = none := by refine Option.not_isSome_iff_eq_none.mp ?_; rw [H.mem]; simp
      exact ⟨Tf, Fix.none (n := 0) hql hcl hq3 hg Walk.none rfl (by simp) h1, h2⟩
    · have hqp : Pre W (low q) = true := by rw [low_snoc] at hpre; exact pre_front hpre
      obtain ⟨f, hf, hfl, hfs⟩ := H.link q hq hqp (fun z hz e => by
        have h2 := hm z hz
        have h3 := congrArg List.length e
        simp only [List.length_map] at h3
        simp only [List.length_append, List.length_cons, List.length_nil] at h2
        lia)
      have hflen : f.length + 1 ≤ q.length := by
        have h2 := congrArg List.length hfs
        have h3 := suf_len W (low q).tail
        simp only [List.length_map, List.length_tail] at h2 h3
        have : q.length ≠ 0 := fun z => hq (List.length_eq_zero_iff.mp z)
        lia
      obtain ⟨k, r, hw, hr, hrl, hrs⟩ := walk_some hW H hm hcl f.length f (Nat.le_refl _) (by simp; lia) (by lia) hfl (by rw [hfs]; exact suf_is_pre hW _)
      have hrs2 : low r = suf W (low (q ++ [c])).tail := by
        rw [hrs, hfs, suf_step, low_snoc]
        cases q with
        | nil => exact absurd rfl hq
        | cons a q => rfl
      obtain ⟨Tf, h1, h2⟩ := next r hr hrs2
      exact ⟨Tf, Fix.some hql hcl hq3 hf hw hr (by lia) h1, h2⟩
end Mine88
end

-- part Q12
section
open PySem PySem.W PyProof.Rows PySem.Spec PySem.Calls
set_option maxRecDepth 100000
set_option maxHeartbeats 8000000
namespace Mine88
/-! what the tree's loop starts from -/
theorem step_count (k : Nat) : ∀ (W acc : List (List Nat)), (W.foldl (frontStep k) acc).length ≤ acc.length + W.length
  | [], acc => Nat.le_refl _
  | w :: W, acc => by
    have ih := step_count k W (frontStep k acc w)
    have h1 : (frontStep k acc w).length ≤ acc.length + 1 := by
      unfold frontStep addKey
      split
      · split <;> simp
      · lia
    simp only [List.foldl_cons, List.length_cons]
    lia
theorem sort_count (W : List (List Nat)) : (sortK (treeAll W ([], [])).1).length ≤ 4 * W.length := by
  unfold sortK
  simp only [List.length_append, keysAt_fold]
  have h1 := step_count 1 W []
  have h2 := step_count 2 W []
  have h3 := step_count 3 W []
  have h4 := step_count 4 W []
  simp only [List.length_nil] at h1 h2 h3 h4
  lia
theorem mem_keysAt {k : Nat} {T : Tab} {p : List Nat} : p ∈ keysAt k T ↔ p ∈ T.map (·.1) ∧ p.length = k := by
  unfold keysAt
  rw [List.mem_filter, beq_iff_eq]
theorem mem_sortK {T : Tab} (h : ∀ kv ∈ T, okWord kv.1 = true) {p : List Nat} : p ∈ sortK T ↔ p ∈ T.map (·.1) := by
  unfold sortK
  simp only [List.mem_append, mem_keysAt]
  constructor
  · rintro (h | h | h | h) <;> exact h.1
  · intro hp
    obtain ⟨kv, hk, rfl⟩ := List.mem_map.mp hp
    have := okWord_iff.mp (h kv hk)
    have : kv.1.length = 1 ∨ kv.1.length = 2 ∨ kv.1.length = 3 ∨ kv.1.length = 4 := by lia
    rcases this with e | e | e | e
    · exact .inl ⟨hp, e⟩
    · exact .inr (.inl ⟨hp, e⟩)
    · exact .inr (.inr (.inl ⟨hp, e⟩))
    · exact .inr (.inr (.inr ⟨hp, e⟩))
theorem pair_app {l m : List (List Nat)} {k : Nat} (h1 : l.Pairwise fun p q => p.length ≤ q.length) (h2 : m.Pairwise fun p q => p.length ≤ q.length) (h3 : ∀ p ∈ l, p.length ≤ k) (h4 : ∀ p ∈ m, k ≤ p.length) : (l ++ m).Pairwise fun p q => p.length ≤ q.length :=
  List.pairwise_append.mpr ⟨h1, h2, fun p hp q hq => Nat.le_trans (h3 p hp) (h4 q hq)⟩
theorem keysAt_pair (k : Nat) (T : Tab) : (keysAt k T).Pairwise fun p q => p.length ≤ q.length := by
  refine List.Pairwise.imp_of_mem (R := fun _ _ => True) ?_ (List.pairwise_of_forall fun _ _ => trivial)
  intro p q hp hq _
  rw [(mem_keysAt.mp hp).2, (mem_keysAt.mp hq).2]
  exact Nat.le_refl _
theorem sortK_pair (T : Tab) : (sortK T).Pairwise fun p q => p.length ≤ q.length := by
  unfold sortK
  refine pair_app (k := 1) (keysAt_pair 1 T) (pair_app (k := 2) (keysAt_pair 2 T) (pair_app (k := 3) (keysAt_pair 3 T) (keysAt_pair 4 T) ?_ ?_) ?_ ?_) ?_ ?_
  · intro p hp; rw [(mem_keysAt.mp hp).2]; decide
  · intro p hp; rw [(mem_keysAt.mp hp).2]; decide
  · intro p hp; rw [(mem_keysAt.mp hp).2]; decide
  · intro p hp
    rcases List.mem_append.mp hp with hp | hp <;> rw [(mem_keysAt.mp hp).2] <;> decide
  · intro p hp; rw [(mem_keysAt.mp hp).2]; decide
  · intro p hp
    rcases List.mem_append.mp hp with hp | hp
    · rw [(mem_keysAt.mp hp).2]; decide
    · rcases List.mem_append.mp hp with hp | hp <;> rw [(mem_keysAt.mp hp).2] <;> decide
theorem key_some {T : Tab} {u : List Nat} (h : (getT T u).isSome = true) : ∃ kv ∈ T, low kv.1 = low u := by
  unfold getT at h
  rw [Option.isSome_map] at h
  obtain ⟨kv, hk⟩ := Option.isSome_iff_exists.mp h
  exact ⟨kv, List.mem_of_find?_eq_some hk, by simpa using List.find?_some hk⟩
theorem tree_fix {W : List (List Nat)} (hW : ∀ w ∈ W, okWord w = true) (hn : W ≠ []) : ∃ Tf, Fix (treeAll W ([], [])).1 (sortK (treeAll W ([], [])).1) Tf ∧ Half W Tf [] := by
  have hok := tree_ok hW
  refine fix_exists hn (sortK (treeAll W ([], [])).1) (treeAll W ([], [])).1 ⟨fun u => tree_mem u, fun u hu hp hl => ?_⟩ (sortK_pair _) ?_
  · exfalso
    have hs : (getT (treeAll W ([], [])).1 u).isSome = true := by
      rw [tree_mem, hp]
      cases u with
      | nil => exact absurd rfl hu
      | cons => rfl
    obtain ⟨kv, hk, e⟩ := key_some hs
    exact hl kv.1 ((mem_sortK hok).mpr (List.mem_map_of_mem hk)) e
  · intro p hp
    have hp' := (mem_sortK hok).mp hp
    obtain ⟨kv, hk, rfl⟩ := List.mem_map.mp hp'
    refine ⟨hok kv hk, ?_⟩
    have hs : (getT (treeAll W ([], [])).1 kv.1).isSome = true := by
      unfold getT
      rw [Option.isSome_map, List.find?_isSome]
      exact ⟨kv, hk, by simp⟩
    rw [tree_mem] at hs
    exact (Bool.and_eq_true_iff.mp hs).2
end Mine88
end

-- part Q13
section
open PySem PySem.W PyProof.Rows PySem.Spec PySem.Calls
set_option maxRecDepth 100000
set_option maxHeartbeats 8000000
namespace Mine88
/-! what the tree told is what is left -/
theorem like_hit {w one : List Nat} {k : Nat} (hk : k ≤ w.length) : likeK k w one = Hit one (w.take k) := by
  unfold likeK Hit
  have hl : (w.take k).length = k := by simp; lia
  rw [hl]
  show ((one.take k).map lowC == (w.take k).map lowC) = ((one.map lowC).take k == (w.take k).map lowC)
  rw [List.map_take]
theorem find_head {α β : Type} (p : α → Bool) (f : α → β) (d : β) : ∀ l : List α, ((l.filter p).map f).headD d = ((l.find? p).map f).getD d
  | [] => rfl
  | a :: l => by
    by_cases h : p a = true
    · rw [List.filter_cons_of_pos h, List.find?_cons_of_pos h]; rfl
    · rw [List.filter_cons_of_neg h, List.find?_cons_of_neg h]; exact find_head p f d l
theorem left_val (W : List (List Nat)) {w : List Nat} {k : Nat} (h1 : 1 ≤ k) (hk : k ≤ w.length) : leftK W w k = valAt (treeAll W ([], [])).1 (w.take k) := by
  unfold leftK valAt
  have hl : (w.take k).length = k := by simp; lia
  have hne : w.take k ≠ [] := by intro e; rw [e] at hl; simp at hl; lia
  rw [all_get]
  show _ = (match getT [] (w.take k) with | some y => some y | none => _).getD _
  rw [show getT [] (w.take k) = none from rfl]
  dsimp only
  rw [if_neg hne, find_head, hl]
  congr 2
  congr 1
  funext one
  exact like_hit hk
theorem told_left {W : List (List Nat)} : (treeAll W ([], [])).2 = W.flatMap (leftW W) := by
  rw [all_told (treeAll W ([], [])).1 W ([], []) (fun u y h => h)]
  rw [List.nil_append]
  congr 1
  funext w
  unfold leftW
  apply List.map_congr_left
  intro k hk
  exact (left_val W (by lia) (by have := List.mem_range.mp hk; lia)).symm
/-! the keys -/
theorem del_map (T : Tab) (p : List Nat) : (delTab T p).map (·.1) = (T.map (·.1)).filter fun x => !(low x == low p) := by
  unfold delTab
  rw [List.filter_map]
  rfl
theorem fix_keys : ∀ {T : Tab} {left : List (List Nat)} {Tf : Tab}, Fix T left Tf → ∀ (rest done : List (List Nat)), T.map (·.1) = rest ++ done → (∀ x ∈ rest, x ∈ left) → Apart (done ++ left) → Tf.map (·.1) = done ++ left := by
  intro T left Tf h
  have step : ∀ {T : Tab} {p r : List Nat} {rem : List (List Nat)} {Tf : Tab}, (∀ (rest done : List (List Nat)), (putTab T p (path r)).map (·.1) = rest ++ done → (∀ x ∈ rest, x ∈ rem) → Apart (done ++ rem) → Tf.map (·.1) = done ++ rem) →
      ∀ (rest done : List (List Nat)), T.map (·.1) = rest ++ done → (∀ x ∈ rest, x ∈ p :: rem) → Apart (done ++ p :: rem) → Tf.map (·.1) = done ++ p :: rem := by
    intro T p r rem Tf ih rest done hT hr ha
    have hd : done.filter (fun x => !(low x == low p)) = done := by
      refine List.filter_eq_self.mpr fun x hx => ?_
      have := (List.pairwise_append.mp ha).2.2 x hx p (List.mem_cons_self ..)
      simpa using this
    have e : (putTab T p (path r)).map (·.1) = rest.filter (fun x => !(low x == low p)) ++ (done ++ [p]) := by
      unfold putTab
      rw [List.map_append, del_map, hT, List.filter_append, hd]
      simp
    have := ih _ _ e (fun x hx => by
      obtain ⟨hx1, hx2⟩ := List.mem_filter.mp hx
      rcases List.mem_cons.mp (hr x hx1) with rfl | h
      · simp at hx2
      · exact h) (by simpa using ha)
    simpa using this
  induction h with
  | nil =>
    intro rest done hT hr ha
    cases rest with
    | nil => simpa using hT
    | cons x r => exact absurd (hr x (List.mem_cons_self ..)) (by simp)
  | none _ _ _ _ _ _ _ _ ih => exact step ih
  | some _ _ _ _ _ _ _ _ ih => exact step ih
theorem apart_filter {l : List (List Nat)} (h : Apart l) (P : List Nat → Bool) : Apart (l.filter P) := List.Pairwise.filter _ h
theorem sortK_apart {W : List (List Nat)} (hW : ∀ w ∈ W, okWord w = true) : Apart (sortK (treeAll W ([], [])).1) := by
  have ha := tree_apart hW
  have hk : ∀ k, Apart (keysAt k (treeAll W ([], [])).1) := fun k => apart_filter ha _
  have ne : ∀ {k j : Nat} {p q : List Nat}, k ≠ j → p ∈ keysAt k (treeAll W ([], [])).1 → q ∈ keysAt j (treeAll W ([], [])).1 → low p ≠ low q := fun hkj hp hq e => by
    have h1 := congrArg List.length e
    simp only [List.length_map] at h1
    rw [(mem_keysAt.mp hp).2, (mem_keysAt.mp hq).2] at h1
    exact hkj h1
  unfold sortK
  refine List.pairwise_append.mpr ⟨hk 1, List.pairwise_append.mpr ⟨hk 2, List.pairwise_append.mpr ⟨hk 3, hk 4, ?_⟩, ?_⟩, ?_⟩
  · intro p hp q hq; exact ne (by decide) hp hq
  · intro p hp q hq
    rcases List.mem_append.mp hq with hq | hq
    · exact ne (by decide) hp hq
    · exact ne (by decide) hp hq
  · intro p hp q hq
    rcases List.mem_append.mp hq with hq | hq
    · exact ne (by decide) hp hq
    · rcases List.mem_append.mp hq with hq | hq
      · exact ne (by decide) hp hq
      · exact ne (by decide) hp hq
theorem front_step {k : Nat} {acc cur : List (List Nat)} {w : List Nat} (hk : 0 < k) (ha : ∀ x ∈ acc, x.length ≠ k) : frontAdd k (acc ++ cur) w = acc ++ frontStep k cur w := by
  unfold frontAdd frontStep addKey
  by_cases h1 : k ≤ w.length
  · have hl : (w.take k).length = k := by simp; lia
    have hno : (acc.any fun x => x.map lowC == (w.take k).map lowC) = false := by
      refine List.any_eq_false.mpr fun x hx e => ha x hx ?_
      have := congrArg List.length (beq_iff_eq.mp e)
      simp only [List.length_map] at this
      lia
    rw [if_pos (show 0 < k ∧ k ≤ w.length from ⟨hk, h1⟩), List.any_append, hno, Bool.false_or]
    by_cases h2 : (cur.any fun x => x.map lowC == (w.take k).map lowC) = true
    · rw [if_neg (fun z : k ≤ w.length ∧ (cur.any fun x => x.map lowC == (w.take k).map lowC) = false => by rw [z.2] at h2; cases h2)]
      first
        | rw [if_pos h2]
        | rw [if_neg (fun z => by rw [h2] at z; cases z)]
    · rw [if_pos (show k ≤ w.length ∧ (cur.any fun x => x.map lowC == (w.take k).map lowC) = false from ⟨h1, by simpa using h2⟩)]
      first
        | rw [if_neg h2, List.append_assoc]
        | rw [if_pos (by simpa using h2), List.append_assoc]
  · rw [if_neg (fun z => h1 z.1), if_neg (fun z => h1 z.2)]
theorem front_fold {k : Nat} {acc : List (List Nat)} (hk : 0 < k) (ha : ∀ x ∈ acc, x.length ≠ k) : ∀ (W cur : List (List Nat)), W.foldl (frontAdd k) (acc ++ cur) = acc ++ W.foldl (frontStep k) cur
  | [], cur => rfl
  | w :: W, cur => by
    rw [List.foldl_cons, List.foldl_cons, front_step hk ha]
    exact front_fold hk ha W _
theorem fronts_sort (W : List (List Nat)) : frontsAll W = sortK (treeAll W ([], [])).1 := by
  have hl : ∀ k, ∀ x ∈ W.foldl (frontStep k) [], x.length = k := by
    intro k x hx
    rw [← keysAt_fold] at hx
    exact (mem_keysAt.mp hx).2
  have f1 := front_fold (k := 1) (acc := []) (by decide) (by simp) W []
  have f2 := front_fold (k := 2) (acc := W.foldl (frontStep 1) []) (by decide) (fun x hx => by rw [hl 1 x hx]; decide) W []
  have f3 := front_fold (k := 3) (acc := W.foldl (frontStep 1) [] ++ W.foldl (frontStep 2) []) (by decide) (fun x hx => by
    rcases List.mem_append.mp hx with hx | hx
    · rw [hl 1 x hx]; decide
    · rw [hl 2 x hx]; decide) W []
  have f4 := front_fold (k := 4) (acc := W.foldl (frontStep 1) [] ++ W.foldl (frontStep 2) [] ++ W.foldl (frontStep 3) []) (by decide) (fun x hx => by
    rcases List.mem_append.mp hx with hx | hx
    · rcases List.mem_append.mp hx with hx | hx
      · rw [hl 1 x hx]; decide
      · rw [hl 2 x hx]; decide
    · rw [hl 3 x hx]; decide) W []
  simp only [List.append_nil, List.nil_append] at f1 f2 f3 f4
  unfold sortK
  simp only [keysAt_fold]
  show W.foldl (frontAdd 4) (W.foldl (frontAdd 3) (W.foldl (frontAdd 2) (W.foldl (frontAdd 1) []))) = _
  rw [f1, f2, f3, f4]
  simp
theorem keys_fronts {W : List (List Nat)} {Tf : Tab} (hW : ∀ w ∈ W, okWord w = true) (h : Fix (treeAll W ([], [])).1 (sortK (treeAll W ([], [])).1) Tf) : Tf.map (·.1) = frontsAll W := by
  rw [fronts_sort]
  have := fix_keys h ((treeAll W ([], [])).1.map (·.1)) [] (by simp) (fun x hx => (mem_sortK (tree_ok hW)).mpr hx) (by simpa using sortK_apart hW)
  simpa using this
end Mine88
end

-- part P33c
section
open PySem PySem.W PyProof.Rows PySem.Spec PySem.Calls
set_option maxRecDepth 100000
set_option maxHeartbeats 8000000
namespace Mine88
theorem sign_letter (d : Nat) : isLetter (signD d) = true := by
  unfold signD
  split
  · decide
  · split
    · decide
    · split
      · decide
      · split <;> decide
theorem signs_letter (ds : List Nat) : (ds.map signD).all isLetter = true := by
  rw [List.all_map]; exact List.all_eq_true.mpr fun d _ => sign_letter d
theorem word_ok (c : Nat) : okWord (wordC c) = true := by
  refine okWord_iff.mpr ⟨?_, ?_, ?_⟩
  · exact List.all_eq_true.mpr fun x hx => List.all_eq_true.mp (signs_letter _) x (List.mem_of_mem_take hx)
  · simp [wordC, digs]; omega
  · simp [wordC, digs]; omega
theorem words_ok (c0 c1 c2 : Nat) : ∀ u ∈ [wordC c0, wordC c1, wordC c2], okWord u = true := by
  intro u hu
  simp only [List.mem_cons, List.not_mem_nil, or_false] at hu
  rcases hu with rfl | rfl | rfl <;> exact word_ok _
theorem words_strs {W : List (List Nat)} (hW : ∀ u ∈ W, okWord u = true) : ∀ x ∈ W.map S, PyData.strOk x = true := by
  intro x hx
  obtain ⟨u, hu, rfl⟩ := List.mem_map.mp hx
  exact okS (signs_of_letters (okWord_iff.mp (hW u hu)).1)
theorem paths_strs {l : List (List Nat)} (h : ∀ p ∈ l, p.all isLetter = true) : ∀ x ∈ l.map path, PyData.strOk x = true := by
  intro x hx
  obtain ⟨u, hu, rfl⟩ := List.mem_map.mp hx
  exact okS (signs_path (h u hu))
theorem left_strs {W : List (List Nat)} (hW : ∀ u ∈ W, okWord u = true) : ∀ x ∈ W.flatMap (leftW W), PyData.strOk x = true := by
  intro x hx
  obtain ⟨w, hw, hx⟩ := List.mem_flatMap.mp hx
  obtain ⟨k, hk, rfl⟩ := List.mem_map.mp hx
  unfold leftK
  cases e : W.filter (likeK (k + 1) w) with
  | nil =>
    exact okS (l := []) rfl
  | cons a r =>
    have ha : a ∈ W := (List.mem_filter.mp (by rw [e]; exact List.mem_cons_self ..)).1
    show PyData.strOk (S (a.drop (k + 1))) = true
    exact okS (signs_of_letters (List.all_eq_true.mpr fun c hc => List.all_eq_true.mp (okWord_iff.mp (hW a ha)).1 c (List.mem_of_mem_drop hc)))
theorem fronts_ok {W : List (List Nat)} (hW : ∀ u ∈ W, okWord u = true) : ∀ p ∈ frontsAll W, p.all isLetter = true := by
  intro p hp
  rw [fronts_sort] at hp
  have h := (mem_sortK (tree_ok hW)).mp hp
  obtain ⟨kv, hk, rfl⟩ := List.mem_map.mp h
  exact (okWord_iff.mp (tree_ok hW kv hk)).1
theorem Site.of_list {w : World} {dp un d u : Nat} {f : Addr} {vs : List Value} {kw : List (PySem.Str × Value)} {da : Addr} {o : Obj} {news : List (Addr × Obj)} {us : List PySem.Str} (hw : (da, o) ∈ news)
    (C : ∀ rest, SiteR w dp un d u f vs kw [(da, o)] rest (fun v n' => ∃ D ys e, v = .ref D ∧ StrsAre ys us ∧ (D, listO ys e) ∈ n' ∧ (da, o) ∈ n')) : Site w dp un d u f vs kw news (fun v _ n' => ∃ D ys e, v = .ref D ∧ StrsAre ys us ∧ n' = (D, listO ys e) :: news) := by
  refine Site.of_R (fun p hp => by rw [List.mem_singleton.mp hp]; exact hw) offs_rest (C (offs da news)) ?_
  rintro h₀ L h N v h' n ⟨D, ys, e, p, q, m1, m2⟩
  refine ⟨_, ⟨D, ys, e, p, q, rfl⟩, fun q hq => ?_⟩
  rcases List.mem_cons.mp hq with rfl | hq
  · exact List.mem_append_left _ m1
  · rcases mem_offs N hw q hq with rfl | hq
    · exact List.mem_append_left _ m2
    · exact List.mem_append_right _ hq
theorem rows_fst (T : Tab) : (rowsT T).map (·.1) = (T.map (·.1)).map path := by unfold rowsT; rw [List.map_map, List.map_map]; rfl
theorem led_ne {h₀ h : Heap} {L : Addr} {n : Led} {a b : Addr} {o o' : Obj} (N : News h₀ L h n) (h1 : (a, o) ∈ n) (h2 : (b, o') ∈ n) (ho : o ≠ o') : a ≠ b := by
  intro e
  have e1 := (N _ h1).1
  have e2 := (N _ h2).1
  simp only at e1 e2
  rw [e, e2] at e1
  exact ho (Option.some.inj e1).symm
end Mine88
end

-- part Q14
section
open PySem PySem.W PyProof.Rows PySem.Spec PySem.Calls
set_option maxRecDepth 100000
set_option maxHeartbeats 8000000
namespace Mine88
/-! steps along a text, and the chain of what ends there -/
theorem pre_len {W : List (List Nat)} (hW : ∀ w ∈ W, okWord w = true) {u : List Nat} (h : Pre W u = true) : u.length ≤ 4 := by
  obtain ⟨w, hw, e⟩ := List.any_eq_true.mp h
  have h1 := congrArg List.length (beq_iff_eq.mp e)
  have h2 := (okWord_iff.mp (hW w hw)).2.2
  simp only [List.length_take, List.length_map, low] at h1
  lia
/-- where the walk stands after the text x -/
structure Node (W : List (List Nat)) (f x : List Nat) : Prop where
  ok : f.all isLetter = true
  len : f.length ≤ 4
  at_ : low f = suf W (low x)
theorem node_nil (W : List (List Nat)) : Node W [] [] := ⟨rfl, by decide, rfl⟩
theorem node_pre {W : List (List Nat)} (hn : W ≠ []) {f x : List Nat} (h : Node W f x) : Pre W (low f) = true := by
  rw [h.at_]; exact suf_is_pre hn _
theorem node_step {W : List (List Nat)} (hW : ∀ w ∈ W, okWord w = true) (hn : W ≠ []) {T : Tab} (H : Half W T []) {f x : List Nat} (h : Node W f x) {c : Nat} (hc : isLetter c = true) : ∃ k r, Walk T c k (some f) r ∧ Node W r (x ++ [c]) := by
  obtain ⟨k, r, h1, h2, h3, h4⟩ := walk_some hn H (m := f.length + 1) (fun p hp => by cases hp) hc f.length f (Nat.le_refl _) (Nat.lt_succ_self _) h.len h.ok (node_pre hn h)
  have h5 : low r = suf W (low (x ++ [c])) := by rw [h4, h.at_, suf_step, ← low_snoc]
  refine ⟨k, r, h1, h2, ?_, h5⟩
  have h6 : Pre W (low r) = true := by rw [h5]; exact suf_is_pre hn _
  have h7 := pre_len hW h6
  simpa [low] using h7
/-- what the chain from a node still says -/
inductive Chain (T : Tab) : Nat → Option (List Nat) → List (List Nat) → Prop
  | stop {n} : Chain T n none []
  | root {n} : getT T [] = none → Chain T (n + 1) (some []) [[]]
  | back {n} {f g : List Nat} {r : List (List Nat)} : f ≠ [] → f.all isLetter = true → f.length ≤ 4 → getT T f = some (path g) → Chain T n (some g) r → Chain T (n + 1) (some f) (low f :: r)
theorem ends_tail {W : List (List Nat)} {u : List Nat} (hu : u ≠ []) (h : Pre W u = true) : endsL W u = u :: endsL W (suf W u.tail) := by
  cases u with
  | nil => exact absurd rfl hu
  | cons a r =>
    rw [ends_suf]
    simp [endsL, h]
theorem chain_all {W : List (List Nat)} (hn : W ≠ []) {T : Tab} (H : Half W T []) : ∀ (n : Nat) (f : List Nat), f.length ≤ n → f.length ≤ 4 → f.all isLetter = true → Pre W (low f) = true → Chain T (n + 1) (some f) (endsL W (low f)) := by
  intro n
  induction n with
  | zero =>
    intro f hf h4 hl hp
    have e : f = [] := List.length_eq_zero_iff.mp (by lia)
    subst e
    exact .root (by refine Option.not_isSome_iff_eq_none.mp ?_; rw [H.mem]; simp)
  | succ n ih =>
    intro f hf h4 hl hp
    by_cases e : f = []
    · subst e
      exact .root (by refine Option.not_isSome_iff_eq_none.mp ?_; rw [H.mem]; simp)
    · obtain ⟨g, hg, hgl, hgs⟩ := H.link f e hp (fun p hp' => by cases hp')
      have hlen : g.length + 1 ≤ f.length := by
        have h2 := congrArg List.length hgs
        have h3 := suf_len W (low f).tail
        have h5 : f.length ≠ 0 := fun z => e (List.length_eq_zero_iff.mp z)
        simp only [low, List.length_map, List.length_tail] at h2 h3
        lia
      have hlf : low f ≠ [] := by simpa [low] using e
      rw [ends_tail hlf hp, ← hgs]
      exact .back e hl h4 hg (ih g (by lia) (by lia) hgl (by rw [hgs]; exact suf_is_pre hn _))
/-! the other side: all ends that begin a word -/
theorem ends_low {W : List (List Nat)} (hn : W ≠ []) : ∀ x : List Nat, endsW (W.map low) x = endsL W x := by
  have hp : ∀ e, endP (W.map low) e = Pre W e := by
    intro e
    unfold endP Pre
    have hq : (W.any fun w => (low w).take e.length == e) = (W.map low).any (beginsK e) := by rw [List.any_map]; rfl
    rw [hq]
    cases h : (W.map low).filter (beginsK e) with
    | nil =>
      have : (W.map low).any (beginsK e) = false := by
        rw [List.any_eq_false]; intro x hx hb
        have := List.mem_filter.mpr ⟨hx, hb⟩
        rw [h] at this; cases this
      rw [this]; simp
    | cons a r =>
      have ha := List.mem_filter.mp (show a ∈ (W.map low).filter (beginsK e) by rw [h]; exact List.mem_cons_self ..)
      have : (W.map low).any (beginsK e) = true := List.any_eq_true.mpr ⟨a, ha.1, ha.2⟩
      rw [this]; simp
  unfold endsW
  rw [show endP (W.map low) = Pre W from funext hp]
  have he : ∀ (a : Nat) (r : List Nat), endsAll (a :: r) = (a :: r) :: endsAll r := by
    intro a r
    unfold endsAll
    rw [List.length_cons, List.range_succ_eq_map, List.map_cons, List.map_map]
    rfl
  intro x
  induction x with
  | nil =>
    show ([[]] : List (List Nat)).filter (Pre W) = [[]]
    have : Pre W [] = true := by
      have := suf_is_pre hn []
      exact this
    rw [List.filter_cons_of_pos this]; rfl
  | cons a r ih =>
    rw [he]
    by_cases h : Pre W (a :: r) = true
    · rw [List.filter_cons_of_pos h, ih]; simp [endsL, h]
    · rw [List.filter_cons_of_neg h, ih]; simp [endsL, h]
theorem lowC_letter {c : Nat} (h : isLetter c = true) : isLetter (lowC c) = true := by
  unfold isLetter at h
  unfold lowC isLetter
  simp only [Bool.or_eq_true, beq_iff_eq] at h
  rcases h with (((rfl | rfl) | rfl) | rfl) | rfl <;> decide
theorem low_word {w : List Nat} (h : okWord w = true) : okWord (low w) = true := by
  obtain ⟨h1, h2, h3⟩ := okWord_iff.mp h
  exact okWord_iff.mpr ⟨low_letters h1, by simpa using h2, by simpa using h3⟩
/-- the chain from the node after x is what ends_c tells -/
theorem node_chain {W : List (List Nat)} (hn : W ≠ []) {T : Tab} (H : Half W T []) {f x : List Nat} (h : Node W f x) : Chain T (f.length + 1) (some f) (endsW (W.map low) (low x)) := by
  have := chain_all hn H f.length f (Nat.le_refl _) h.len h.ok (node_pre hn h)
  rw [h.at_, ends_suf] at this
  rw [ends_low hn]
  exact this
end Mine88
end

-- part P33d
section
open PySem PySem.W PyProof.Rows PySem.Spec PySem.Calls
set_option maxRecDepth 100000
set_option maxHeartbeats 8000000
namespace Mine88
theorem m4_eq {m₀ : Fm} {a b c d : PySem.Str} {v : Option Value} (h : m₀ c = v) : m₀ = fun y => if y = a then m₀ a else if y = b then m₀ b else if y = c then v else if y = d then m₀ d else m₀ y := by
  funext y
  by_cases h1 : y = a
  · rw [if_pos h1, h1]
  · rw [if_neg h1]
    by_cases h2 : y = b
    · rw [if_pos h2, h2]
    · rw [if_neg h2]
      by_cases h3 : y = c
      · rw [if_pos h3, h3, h]
      · rw [if_neg h3]
        by_cases h4 : y = d
        · rw [if_pos h4, h4]
        · rw [if_neg h4]
inductive RunJX (W : List (List Nat)) (X : List Nat) (Tf : Tab) (x dx l D : Addr) (oD : Obj) (ps : Array Value) (m₀ : Fm) (k i : Nat) (m : Fm) (n : Led) : Prop
  | mk : ∀ f t u1 u2 u4, Node W f (X.take i) → (m = fun y => if y = nm "chain" then u1 else if y = nm "back" then u2 else if y = nm "node" then some (.str (path f) t) else if y = nm "size" then u4 else m₀ y) → RunJX W X Tf x dx l D oD ps m₀ k i m n
structure RunJ (W : List (List Nat)) (X : List Nat) (Tf : Tab) (x dx l D : Addr) (oD : Obj) (ps : Array Value) (m₀ : Fm) (k i : Nat) (m : Fm) (n : Led) : Prop where
  ex : RunJX W X Tf x dx l D oD ps m₀ k i m n
  tab : TabT n x dx l Tf
  pl : (D, oD) ∈ n
  t7 : (327, tabObj ps) ∈ n
inductive ChnJX (goal : List (List Nat)) (Tf : Tab) (x dx l D ch I : Addr) (oD it : Obj) (ps : Array Value) (m₁ : Fm) (k : Nat) (m : Fm) (n : Led) : Prop
  | mk : ∀ a v done r cvs e, Chain Tf k a r → done ++ r = goal → done.length + k ≤ 20 → NodeV a v → (ch, listO cvs e) ∈ n → StrsAre cvs (done.map path) → (m = fun y => if y = nm "back" then some v else m₁ y) → ChnJX goal Tf x dx l D ch I oD it ps m₁ k m n
structure ChnJ (goal : List (List Nat)) (Tf : Tab) (x dx l D ch I : Addr) (oD it : Obj) (ps : Array Value) (m₁ : Fm) (k : Nat) (m : Fm) (n : Led) : Prop where
  ex : ChnJX goal Tf x dx l D ch I oD it ps m₁ k m n
  tab : TabT n x dx l Tf
  pl : (D, oD) ∈ n
  it : (I, it) ∈ n
  t7 : (327, tabObj ps) ∈ n
theorem take_snoc {X : List Nat} {i c : Nat} (h : X[i]? = some c) : X.take (i + 1) = X.take i ++ [c] := by
  rw [List.take_succ, h]; rfl
theorem mb_eq {m : Fm} {b : PySem.Str} {v : Option Value} (h : m b = v) : m = fun y => if y = b then v else m y := by
  funext y
  by_cases h1 : y = b
  · rw [if_pos h1, h1, h]
  · rw [if_neg h1]
theorem ends_let {W : List (List Nat)} {u : List Nat} (h : u.all isLetter = true) : ∀ p ∈ endsW W u, p.all isLetter = true := by
  intro p hp
  obtain ⟨k, hk, rfl⟩ := List.mem_map.mp (List.mem_filter.mp hp).1
  exact List.all_eq_true.mpr fun c hc => List.all_eq_true.mp h c (List.mem_of_mem_drop hc)
theorem low_words {W : List (List Nat)} (h : ∀ w ∈ W, okWord w = true) : ∀ w ∈ W.map low, okWord w = true := by
  intro w hw
  obtain ⟨v, hv, rfl⟩ := List.mem_map.mp hw
  exact low_word (h v hv)
end Mine88
end

-- part P33
section
open PySem PySem.W PyProof.Rows PySem.Spec PySem.Calls
set_option maxRecDepth 100000
set_option maxHeartbeats 8000000
namespace Mine88
open PyProof.Rows.LCg
theorem set_rows_P33 : True := by
  k_with_none
  k_with "call builtin:issubclass" => (k_here; (with_reducible show wpAny _ _ (call (Value.builtin "issubclass") [Value.type "str", Value.ref _]) _ _ _); k_dflt (refine' issub_call ?k1 ?_; (case k1 => exact News.get (by assumption) (by k_mem)); k_whole); intro tk_z)
  k_with "truthy str" => (k_here; (with_reducible show wpAny _ _ (PySem.truthy (Value.str _ _)) _ _ _); (refine' KXt.truthy_pos (K := 1000) ?kxta ?kxtb ?kxtc ?_; (case kxta => assumption); (case kxtb => assumption); (case kxtc => exact Nat.le_of_ble_eq_true rfl)); intro _)
  k_with "call builtin:list.append" => (k_here; (with_reducible show wpAny _ _ (call (Value.builtin _) [Value.ref _, _]) _ _ _); k_dflt (refine' append_in ?k1 ?k2 ?k3 ?k4 ?_; (case k1 => k_asm); (case k2 => k_asm); (case k3 => k_mem); (case k4 => first | assumption | (simp only [List.length_append, List.length_cons, List.length_nil]; omega)); k_whole); intro h'_z F'_z N'_z)
  k_with "SrcLP" => (k_here; refine Stop.out ?_)
  k_with "CompSrc" => (k_here; refine Stop.out ?_)
  k_with "CompSrcT" => (k_here; refine Stop.out ?_)
  k_with "exec For Name Name cons nil" => (k_here; (rename Fr _ _ _ _ => lF'); (with_unfolding_all refine' For_invVF lF' ?k1 ?k2 ?_; (case k1 => exact rfl); (case k2 => exact rfl); k_whole))
  k_with "exec For Name Call cons nil" => (k_here; (rename Fr _ _ _ _ => lF'); (with_unfolding_all refine' For_invVF lF' ?k1 ?k2 ?_; (case k1 => exact rfl); (case k2 => exact rfl); k_whole))
  k_with "pyIter ref" => ((with_reducible show wpAny _ _ (pyIter (Value.ref _)) (fun it s₂ => LoopAtV _ _ _ _ _ _ _ _ _ it s₂) _ _); k_here; refine Stop.out ?_)
  k_with "exec While" => (k_here; refine Stop.out ?_)
  k_with "exec While Compare" => (k_here; refine Stop.out ?_)
  k_with "exec While BoolOp" => (k_here; refine Stop.out ?_)
  k_with "LeaveK" => (k_here; k_dflt (refine' leaveR ?k0 ?k1 ?k2 ?_; (case k0 => assumption); (case k1 => k_asm); (case k2 => k_asm); k_whole); intro kF_z kN_z kK_z)
  k_with "eval ListComp" => (k_here; (with_reducible show wpAny _ _ (eval (PySem.Expr.ListComp _ [⟨PySem.Expr.Name _ _, _, _, _⟩] _ _) _) _ _ _); k_dflt (refine' ListComp_C ?F ?cl ?cf ?pc ?kd ?nm ?hx ?_ ?hs; (case cl => with_unfolding_all rfl); (case cf => exact fun _ => rfl); (case pc => exact fun _ => rfl); (case F => k_asm); (case kd => rfl); (case nm => decide); (case hx => rfl); (case hs => (intro _; rfl))))
  k_with "exec Assign cons ListComp" => (k_here; (with_reducible show wpAny _ _ (exec (Stmt.Assign [PySem.Expr.Name _ _] (PySem.Expr.ListComp _ [⟨PySem.Expr.Name _ _, _, _, _⟩] _ _) _) _) _ _ _); k_dflt (refine' Assign_ListComp_C ?F ?le ?sw ?cl ?cf ?pc ?kd ?nm ?hx ?hy ?hp ?_ ?hs; (case cl => with_unfolding_all rfl); (case cf => exact fun _ => rfl); (case pc => exact fun _ => rfl); (case F => k_asm); (case le => rfl); (case sw => with_unfolding_all rfl); (case kd => rfl); (case nm => decide); (case hx => rfl); (case hy => rfl); (case hp => rfl); (case hs => (intro _; rfl))))
  k_with "compareOp NotEq ref ref" => (k_here; (with_reducible show wpAny _ _ (compareOp CmpOp.NotEq (Value.ref _) (Value.ref _)) _ _ _); refine Stop.out ?_)
  k_with "call ref" => (k_here; (with_reducible show wpAny _ _ (call (Value.ref _) _ _) _ _ _); refine Stop.out ?_)
  k_with "exec Assign cons ListComp" => (k_here; (with_reducible show wpAny _ _ (exec (Stmt.Assign [PySem.Expr.Name _ _] (PySem.Expr.ListComp _ [⟨PySem.Expr.Tuple _ _ _, _, _, _⟩] _ _) _) _) _ _ _); k_dflt (refine' Assign_Zip ?F ?le ?sw ?cl ?ce ?kd ?nm ?ha ?hb ?hab ?hy ?hp ?_ ?hs; (case cl => with_unfolding_all rfl); (case F => k_asm); (case le => rfl); (case sw => with_unfolding_all rfl); (case ce => decide); (case kd => rfl); (case nm => decide); (case ha => rfl); (case hb => rfl); (case hab => decide); (case hy => rfl); (case hp => rfl); (case hs => (intro _; rfl))))
  k_with "call type:zip" => (k_here; (with_reducible show wpAny _ _ (call (Value.type _) [Value.ref _, Value.ref _]) (fun xv s₁ => wpAny _ _ (pyIter xv) (fun it s₂ => ZAt _ _ _ _ _ _ _ _ _ _ _ _ _ it s₂) _ s₁) _ _); refine Stop.out ?_)
  k_with "call builtin:str.join" => (k_here; (with_reducible show wpAny _ _ (call (Value.builtin "str.join") [Value.str _ _, Value.ref _]) _ _ _); refine Stop.out ?_)
  trivial
theorem run_c (w : World) (dp un : Nat) (rest : Led) (ca : Addr) (c0 c1 c2 c3 : Nat) (t0 t1 t2 t3 : Tok) (we : Nat) (h0 : c0 ≤ 1000000000) (h1 : c1 ≤ 1000000000) (h2 : c2 ≤ 1000000000) (h3 : c3 ≤ 1000000000) :
    SiteR w dp un 200 2000 354 [.ref ca] [] [(ca, listO [.int c0 t0, .int c1 t1, .int c2 t2, .int c3 t3] we), (327, tabObj #[])] rest (fun v n' => v = .bool true ∧ ∃ ps, (327, tabObj ps) ∈ n') := by
  unfold SiteR
  k_fill
  intro gd cn csn csg csc csm a ccd cl outer A₀ base h₀ L m s Q E p loose mean mg mb B F X N hR T hd hu hret
  refine wpAny_call ?_
  k_dflt (refine' code_defCR hR ?k1 ?k2 ?k3 ?k4 ?k5 ?kA ?kF ?kK ?k6 ?k7 ?k8 ?k9 ?kB ?kD ?_ ?c2 ?c3 ?c4; (case kA => exact rfl); (case kF => exact rfl); (case kK => exact rfl); (case k1 => k_asm); (case k2 => k_asm); (case k3 => k_asm); (case k4 => k_asm); (case k5 => k_asm); (case k6 => k_is); (case k7 => k_is); (case k8 => k_room); (case k9 => first | exact BindsTo.of_eq rfl | exact binds_K (by k_in) rfl (by k_is) rfl rfl rfl); (case c2 => exact rfl); (case c3 => exact rfl); (case c4 => exact rfl); (case kB => exact rfl); (case kD => decide +kernel); k_whole)
  intro gR LR hR1 tkR cellsR hg FG F₁ N₁ YR B₁ X₁ T₁ lR
  (try k_lt lR)
  have hYR := CellsAre.one YR
  obtain ⟨oc1, hER, dc1⟩ := hYR
  subst hER
  clear YR
  (try simp only [List.cons_append, List.nil_append] at N₁)
  (try dsimp only)
  have dca : oc1.data = .cell (some (.ref ca)) := dc1
  clear dc1
  k_steps
  rename_i Ds hDs FDs NN lDs
  refine compC_src (vs := [.int c0 t0, .int c1 t1, .int c2 t2]) (ep := 0) (fun r zs n => ∃ cr ds, NatsAre r cr ∧ (∀ c ∈ cr, c ≤ 1000000000) ∧ RowsD n zs ds ∧ ds ++ cr.map (digs 4) = [digs 4 c0, digs 4 c1, digs 4 c2] ∧ (ca, listO [.int c0 t0, .int c1 t1, .int c2 t2, .int c3 t3] we) ∈ n ∧ (LR + 1, oc1) ∈ n ∧ (Ds, listO [.int c0 t0, .int c1 t1, .int c2 t2] 0) ∈ n ∧ (327, tabObj #[]) ∈ n) (by rfl) (by k_asm) (by k_asm) (.head _) (by simp) ⟨[c0, c1, c2], [], .cons _ _ (.cons _ _ (.cons _ _ .nil)), by simp [h0, h1, h2], .nil, rfl, .tail _ (.tail _ (.head _)), .tail _ (.head _), .head _, .tail _ (.tail _ (.tail _ (.head _)))⟩ ?turn ?done
  case turn =>
    intro v r ys' news I oI C oC D c oc h tk E' x9 hC hoc F₂ N₂ off2 o2 ap
    refine hideGoal fun G9 back9 => ?_
    obtain ⟨cr, ds, hr, hok, hy, he, hca, hoc1, hds, h327⟩ := x9
    cases cr with
    | nil => cases hr
    | cons cv cr =>
      cases hr with
      | cons _ t₅ hr =>
      have hcv := hok cv (List.mem_cons_self ..)
      refine back9 ?_
      clear back9 G9
      refine wpAny_tests_nil ?_
      rw [if_pos rfl]
      k_steps
      unfold Stop
      refine compU_range (n := 4) (fun i zs => DigsAre zs (digs i cv)) (by rfl) (by k_asm) (by k_asm) (by assumption) (by decide) (by decide) (by decide) .nil ?_ ?_
      · intro i tk₀ zs I₃ oI₃ C₃ oC₃ D₃ m₃ hX tkX E₃ hi hJ₃ hC₃ hx₃ FX NX offX ne₃
        have : i = 0 ∨ i = 1 ∨ i = 2 ∨ i = 3 := by lia
        refine hideGoal fun G9 back9 => ?_
        rcases this with e | e | e | e <;> subst e
        all_goals (refine back9 ?_; clear back9 G9)
        all_goals k_steps
        · exact PEnd.intro (by k_asm) (by assumption) (fun _ h => h) (digs_snoc hJ₃ (dig_pow cv 0 (by decide)))
        · exact PEnd.intro (by k_asm) (by assumption) (fun _ h => h) (digs_snoc hJ₃ (dig_pow cv 1 (by decide)))
        · exact PEnd.intro (by k_asm) (by assumption) (fun _ h => h) (digs_snoc hJ₃ (dig_pow cv 2 (by decide)))
        · exact PEnd.intro (by k_asm) (by assumption) (fun _ h => h) (digs_snoc hJ₃ (dig_pow cv 3 (by decide)))
      · intro g zs hJ₃
        refine fun D₄ hD tkD FD ND oD => ?_
        refine hideGoal fun G9 back9 => ?_
        obtain ⟨x1, x2, x3, x4, x5⟩ := oD
        refine back9 ?_
        clear back9 G9
        refine EndC.intro FD ND ((D₄, lst zs) :: news) ?sub ⟨⟨Ne.symm x1, Ne.symm x2, Ne.symm x3⟩, off2⟩ ⟨Ne.symm x4, o2⟩ ?src ⟨cr, ds ++ [digs 4 cv], hr, fun x hx => hok x (List.mem_cons_of_mem _ hx), (hy.mono fun p hp => .tail _ hp).snoc ⟨D₄, zs, _, rfl, .head _, hJ₃⟩, by rw [← he]; simp, .tail _ hca, .tail _ hoc1, .tail _ hds, .tail _ h327⟩
        case sub =>
          intro p hp
          refine hideGoal fun G9 back9 => ?_
          rcases List.mem_cons.mp hp with rfl | hp
          · refine back9 ?_
            clear back9 G9
            exact .tail _ (.head _)
          · refine back9 ?_
            clear back9 G9
            rcases List.mem_cons.mp hp with rfl | hp
            · exact .tail _ (.tail _ (.head _))
            · rcases List.mem_cons.mp hp with rfl | hp
              · exact .tail _ (.tail _ (.tail _ (.head _)))
              · rcases List.mem_cons.mp hp with rfl | hp
                · exact .tail _ (.tail _ (.tail _ (.tail _ (.head _))))
                · rcases List.mem_cons.mp hp with rfl | hp
                  · exact .head _
                  · exact .tail _ (.tail _ (.tail _ (.tail _ (.tail _ hp))))
        case src => exact .inr ⟨_, .tail _ hds, rfl, _, rfl⟩
  case done =>
    intro g zs n x9
    refine hideGoal fun G9 back9 => ?_
    obtain ⟨cr, ds, hr, hok, hy, he, hca, hoc1, hds, h327⟩ := x9
    refine back9 ?_
    clear back9 G9
    refine fun D₄ hD tkD FD ND oD => ?_
    cases hr
    rw [List.map_nil, List.append_nil] at he
    refine hideGoal fun G9 back9 => ?_
    subst he
    cases hy with | cons r0 hy => cases hy with | cons r1 hy => cases hy with | cons r2 hy => cases hy with | nil =>
    obtain ⟨a0, v0, e0, rfl, g0, d0⟩ := r0
    obtain ⟨a1, v1, e1, rfl, g1, d1⟩ := r1
    obtain ⟨a2, v2, e2, rfl, g2, d2⟩ := r2
    have N₅ : News gR LR hD [(D₄, lst [.ref a0, .ref a1, .ref a2]), (a0, listO v0 e0), (a1, listO v1 e1), (a2, listO v2 e2), (LR + 1, oc1), (ca, listO [.int c0 t0, .int c1 t1, .int c2 t2, .int c3 t3] we), (327, tabObj #[])] := by
      intro p hp
      simp only [List.mem_cons, List.not_mem_nil, or_false] at hp
      rcases hp with h | h | h | h | h | h | h <;> subst h
      · exact ND _ (.head _)
      · exact ND _ (.tail _ g0)
      · exact ND _ (.tail _ g1)
      · exact ND _ (.tail _ g2)
      · exact ND _ (.tail _ hoc1)
      · exact ND _ (.tail _ hca)
      · exact ND _ (.tail _ h327)
    clear ND oD
    refine back9 ?_
    clear back9 G9
    k_steps
    unfold Stop
    refine compU_range (n := 8) (fun i zs => DigsAre zs (digs i c3)) (by rfl) (by k_asm) (by k_asm) (by assumption) (by decide) (by decide) (by decide) .nil ?_ ?_
    · intro i tk₀ zs I₃ oI₃ C₃ oC₃ D₃ m₃ hX tkX E₃ hi hJ₃ hC₃ hx₃ FX NX offX ne₃
      have : i = 0 ∨ i = 1 ∨ i = 2 ∨ i = 3 ∨ i = 4 ∨ i = 5 ∨ i = 6 ∨ i = 7 := by lia
      refine hideGoal fun G9 back9 => ?_
      rcases this with e | e | e | e | e | e | e | e <;> subst e
      all_goals (refine back9 ?_; clear back9 G9)
      all_goals k_steps
      · exact PEnd.intro (by k_asm) (by assumption) (fun _ h => h) (digs_snoc hJ₃ (dig_pow c3 0 (by decide)))
      · exact PEnd.intro (by k_asm) (by assumption) (fun _ h => h) (digs_snoc hJ₃ (dig_pow c3 1 (by decide)))
      · exact PEnd.intro (by k_asm) (by assumption) (fun _ h => h) (digs_snoc hJ₃ (dig_pow c3 2 (by decide)))
      · exact PEnd.intro (by k_asm) (by assumption) (fun _ h => h) (digs_snoc hJ₃ (dig_pow c3 3 (by decide)))
      · exact PEnd.intro (by k_asm) (by assumption) (fun _ h => h) (digs_snoc hJ₃ (dig_pow c3 4 (by decide)))
      · exact PEnd.intro (by k_asm) (by assumption) (fun _ h => h) (digs_snoc hJ₃ (dig_pow c3 5 (by decide)))
      · exact PEnd.intro (by k_asm) (by assumption) (fun _ h => h) (digs_snoc hJ₃ (dig_pow c3 6 (by decide)))
      · exact PEnd.intro (by k_asm) (by assumption) (fun _ h => h) (digs_snoc hJ₃ (dig_pow c3 7 (by decide)))
    · intro g zs hJ₃
      refine fun D₅ hD5 tkD5 FD5 ND5 oD5 => ?_
      clear oD5
      have rc : ∀ (nn : Led), (∀ p ∈ [(a0, listO v0 e0), (a1, listO v1 e1), (a2, listO v2 e2)], p ∈ nn) → ∀ {i : Nat} {x y : Value}, [Value.ref a0, .ref a1, .ref a2][i]? = some x → [Value.int (c0 : Int) t0, .int c1 t1, .int c2 t2, .int c3 t3][i]? = some y → RowC nn ([wordC c0, wordC c1, wordC c2].map S) i x y := by
        intro nn hnn i x y hx hy
        refine three_rows (P := RowC nn ([wordC c0, wordC c1, wordC c2].map S)) ?_ ?_ ?_ hx hy
        · exact ⟨a0, v0, e0, c0, t0, rfl, rfl, hnn _ (.head _), d0, h0, rfl⟩
        · exact ⟨a1, v1, e1, c1, t1, rfl, rfl, hnn _ (.tail _ (.head _)), d1, h1, rfl⟩
        · exact ⟨a2, v2, e2, c2, t2, rfl, rfl, hnn _ (.tail _ (.tail _ (.head _))), d2, h2, rfl⟩
      k_steps
      unfold Stop
      refine zip_src (fun i zs => StrsAre zs (([wordC c0, wordC c1, wordC c2].map S).take i)) (by rfl) (by k_asm) (by k_asm) (.tail _ (.head _)) (by k_mem) (by simp) .nil ?turn ?done
      case turn =>
        intro i x y zs own C oC D m₂ h tk E' hx hy hJ₅ hC ha hb F₅ N₅
        refine hideGoal fun G9 back9 => ?_
        obtain ⟨ra, v, e, c, t, rfl, rfl, hra, dv, hc9, htk⟩ := rc_in N₅ (P := fun nn => RowC nn _ i x y) (fun nn hnn => rc nn (fun p hp => hnn p (by
          simp only [List.mem_cons, List.not_mem_nil, or_false] at hp ⊢
          rcases hp with h | h | h <;> simp [h])) hx hy)
        refine back9 ?_
        clear back9 G9
        generalize own ++ _ = n₁ at N₅ hra ⊢
        have hv4 : v.length ≤ 1000 := by rw [dv.length]; simp [digs]
        k_steps
        unfold Stop
        refine compU_src (ep := e) (fun r ws => ∃ dr dn, DigsAre r dr ∧ StrsAre ws (dn.map fun d => S [signD d]) ∧ dn ++ dr = digs 4 c) (by rfl) (by k_asm) (by k_asm) (by k_mem) hv4 ⟨_, [], dv, .nil, rfl⟩ ?_ ?_
        · intro v₃ r ws I₃ oI₃ C₃ oC₃ D₃ m₃ hX tkX E₃ hJ₃ hC₃ hx₃ FX NX offX ne₃
          refine hideGoal fun G9 back9 => ?_
          obtain ⟨dr, dn, hr', hd', he'⟩ := hJ₃
          cases hr' with
          | @cons _ dr d t₇ hd4 hr'' =>
            have : d = 0 ∨ d = 1 ∨ d = 2 ∨ d = 3 ∨ d = 4 := by lia
            rcases this with q | q | q | q | q <;> subst q
            all_goals (refine back9 ?_; clear back9 G9)
            all_goals k_steps
            · exact PEnd.intro (by k_asm) (by assumption) (fun _ h => h) ⟨dr, dn ++ [0], hr'', by rw [List.map_append]; exact strs_snoc hd', by rw [← he']; simp⟩
            · exact PEnd.intro (by k_asm) (by assumption) (fun _ h => h) ⟨dr, dn ++ [1], hr'', by rw [List.map_append]; exact strs_snoc hd', by rw [← he']; simp⟩
            · exact PEnd.intro (by k_asm) (by assumption) (fun _ h => h) ⟨dr, dn ++ [2], hr'', by rw [List.map_append]; exact strs_snoc hd', by rw [← he']; simp⟩
            · exact PEnd.intro (by k_asm) (by assumption) (fun _ h => h) ⟨dr, dn ++ [3], hr'', by rw [List.map_append]; exact strs_snoc hd', by rw [← he']; simp⟩
            · exact PEnd.intro (by k_asm) (by assumption) (fun _ h => h) ⟨dr, dn ++ [4], hr'', by rw [List.map_append]; exact strs_snoc hd', by rw [← he']; simp⟩
        · intro g ws hJ₃
          refine hideGoal fun G9 back9 => ?_
          obtain ⟨dr, dn, hr', hd', he'⟩ := hJ₃
          cases hr'
          rw [List.append_nil] at he'
          subst he'
          have hwl : (S ((digs 4 c).map signD)).length ≤ 1000 := by rw [S_len]; simp [digs]
          refine back9 ?_
          clear back9 G9
          k_steps
          unfold Stop
          refine PyProof.Rows.join_listW (ys := (digs 4 c).map fun d => S [signD d]) (listIn (by k_asm) (by k_mem)) (by simpa using hd') (by decide +kernel) (sign_bound (by rw [digs_len]; decide)) ?_
          intro t9 k9
          rw [sign_strs, join_empty]
          k_steps
          refine PEnd.intro (by k_asm) (by assumption) ?sub ?_
          case sub => intro p hp; first | exact hp | exact .tail _ hp | exact .tail _ (.tail _ hp)
          rw [htk, slice_takeA (size_val c)]
          exact strs_snoc hJ₅
      case done =>
        intro g zs hJ₅
        refine fun D₆ hD6 tkD6 FD6 ND6 oD6 => ?_
        clear oD6
        k_steps
        unfold Stop
        refine zip_src (fun i zs => StrsAre zs (([wordC c0, wordC c1, wordC c2].map S).take i)) (by rfl) (by k_asm) (by k_asm) (.tail _ (.tail _ (.head _))) (by k_mem) (by simp) .nil ?turn ?done
        case turn =>
          intro i x y zs own C oC D m₂ h tk E' hx hy hJ₅ hC ha hb F₅ N₅
          refine hideGoal fun G9 back9 => ?_
          obtain ⟨ra, v, e, c, t, rfl, rfl, hra, dv, hc9, htk⟩ := rc_in N₅ (P := fun nn => RowC nn _ i x y) (fun nn hnn => rc nn (fun p hp => hnn p (by
            simp only [List.mem_cons, List.not_mem_nil, or_false] at hp ⊢
            rcases hp with h | h | h <;> simp [h])) hx hy)
          refine back9 ?_
          clear back9 G9
          generalize own ++ _ = n₁ at N₅ hra ⊢
          have hv4 : v.length ≤ 1000 := by rw [dv.length]; simp [digs]
          have hwl : (S ((digs 4 c).map signD)).length ≤ 1000 := by rw [S_len]; simp [digs]
          k_steps
          unfold Stop
          k_dflt (refine' site_use ?k1 ?k2 ?k3 ?k4 ?k5 (written4_site w _ _ _ ra v e (digs 4 c) (.tail _ (.tail _ hra)) dv (digs_len 4 c)) ?kd ?ku ?_)
          case k1 => k_asm
          case k2 => k_asm
          case k3 => k_asm
          case k4 => k_asm
          case k5 => k_asm
          case kd => k_room
          case ku => k_units
          intro v9 hZ tk9 n9 FZ NZ hP9
          (try dsimp only at FZ NZ hP9)
          (try dsimp only)
          refine hideGoal fun G9 back9 => ?_
          obtain ⟨⟨t8, rfl⟩, rfl⟩ := hP9
          refine back9 ?_
          clear back9 G9
          k_steps
          refine PEnd.intro (by k_asm) (by assumption) ?sub ?_
          case sub => intro p hp; first | exact hp | exact .tail _ hp | exact .tail _ (.tail _ hp)
          rw [htk, slice_takeA (size_val c)]
          exact strs_snoc hJ₅
        case done =>
          intro g zs2 hJ₆
          refine fun D₇ hD7 tkD7 FD7 ND7 oD7 => ?_
          clear oD7
          have hwl8 : (S ((digs 8 c3).map signD)).length ≤ 1000 := by rw [S_len]; simp [digs]
          have hokw : ∀ x ∈ [wordC c0, wordC c1, wordC c2].map S, PyData.strOk x = true := by
            exact words_strs (words_ok c0 c1 c2)
          k_steps
          unfold Stop
          k_dflt (refine' site_use ?k1 ?k2 ?k3 ?k4 ?k5 (written8_site w _ _ _ _ _ _ (digs 8 c3) (.tail _ (.tail _ (.head _))) hJ₃ (digs_len 8 c3)) ?kd ?ku ?_)
          case k1 => k_asm
          case k2 => k_asm
          case k3 => k_asm
          case k4 => k_asm
          case k5 => k_asm
          case kd => k_room
          case ku => k_units
          intro v9 hZ tk9 n9 FZ NZ hP9
          (try dsimp only at FZ NZ hP9)
          (try dsimp only)
          refine hideGoal fun G9 back9 => ?_
          obtain ⟨⟨t8, rfl⟩, rfl⟩ := hP9
          refine back9 ?_
          clear back9 G9
          k_steps
          unfold Stop
          refine ne_strs (ns := [wordC c0, wordC c1, wordC c2].map S) (ms := [wordC c0, wordC c1, wordC c2].map S) (xs := zs2) (ys := zs) (listIn (by k_asm) (by k_mem)) (listIn (by k_asm) (by k_mem)) hJ₆ hJ₅ hokw hokw (by first | ktr_units | (show un + 64 < cLine; lia)) ?_
          rw [decide_eq_true rfl]
          k_steps
          unfold Stop
          have hv8 : ∀ {vs}, DigsAre vs (digs 8 c3) → vs.length ≤ 1000 := fun h => by rw [h.length, digs_len]; decide
          refine compU_src (fun r ws => ∃ dr dn, DigsAre r dr ∧ StrsAre ws (dn.map fun d => S [signD d]) ∧ dn ++ dr = digs 8 c3) (by rfl) (by k_asm) (by k_asm) (by k_mem) (hv8 hJ₃) ⟨_, [], hJ₃, .nil, rfl⟩ ?turn ?done
          case turn =>
            intro v₃ r ws I₃ oI₃ C₃ oC₃ D₃ m₃ hX tkX E₃ hJ₃ hC₃ hx₃ FX NX offX ne₃
            refine hideGoal fun G9 back9 => ?_
            obtain ⟨dr, dn, hr', hd', he'⟩ := hJ₃
            cases hr' with
            | @cons _ dr d t₇ hd4 hr'' =>
              have : d = 0 ∨ d = 1 ∨ d = 2 ∨ d = 3 ∨ d = 4 := by lia
              rcases this with q | q | q | q | q <;> subst q
              all_goals (refine back9 ?_; clear back9 G9)
              all_goals k_steps
              · exact PEnd.intro (by k_asm) (by assumption) (fun _ h => h) ⟨dr, dn ++ [0], hr'', by rw [List.map_append]; exact strs_snoc hd', by rw [← he']; simp⟩
              · exact PEnd.intro (by k_asm) (by assumption) (fun _ h => h) ⟨dr, dn ++ [1], hr'', by rw [List.map_append]; exact strs_snoc hd', by rw [← he']; simp⟩
              · exact PEnd.intro (by k_asm) (by assumption) (fun _ h => h) ⟨dr, dn ++ [2], hr'', by rw [List.map_append]; exact strs_snoc hd', by rw [← he']; simp⟩
              · exact PEnd.intro (by k_asm) (by assumption) (fun _ h => h) ⟨dr, dn ++ [3], hr'', by rw [List.map_append]; exact strs_snoc hd', by rw [← he']; simp⟩
              · exact PEnd.intro (by k_asm) (by assumption) (fun _ h => h) ⟨dr, dn ++ [4], hr'', by rw [List.map_append]; exact strs_snoc hd', by rw [← he']; simp⟩
          case done =>
            intro g ws hJ₇
            refine hideGoal fun G9 back9 => ?_
            obtain ⟨dr, dn, hr', hd', he'⟩ := hJ₇
            cases hr'
            rw [List.append_nil] at he'
            subst he'
            refine back9 ?_
            clear back9 G9
            k_steps
            unfold Stop
            refine PyProof.Rows.join_listW (ys := (digs 8 c3).map fun d => S [signD d]) (listIn (by k_asm) (by k_mem)) (by simpa using hd') (by decide +kernel) (sign_bound (by rw [digs_len]; decide)) ?_
            intro t9 k9
            rw [sign_strs, join_empty]
            k_steps
            · exfalso
              (rename (_ != _) = true => hx)
              simp at hx
            clear hwl8
            have hW3 := words_ok c0 c1 c2
            refine hideGoal fun G9 back9 => ?_
            obtain ⟨Tf, hfix, hhalf⟩ := tree_fix hW3 (by simp)
            (rename News _ _ _ ((_, lst ws) :: _) => KN)
            obtain ⟨n₀, KN0, m7, m6, m327⟩ : ∃ n₀, News gR LR _ n₀ ∧ (D₇, listO zs2 zs2.length) ∈ n₀ ∧ (D₆, listO zs zs.length) ∈ n₀ ∧ (327, tabObj #[]) ∈ n₀ := ⟨_, KN, .tail _ (.head _), .tail _ (.tail _ (.head _)), by k_mem⟩
            clear KN
            have d6 : D₆ ≠ 327 := led_ne KN0 m6 m327 (by intro e; have := congrArg (·.cls) e; cases this)
            refine back9 ?_
            clear back9 G9
            unfold Stop
            k_dflt (refine' site_use ?k1 ?k2 ?k3 ?k4 ?k5 (tree_c w _ _ _ D₇ zs2 zs2.length [wordC c0, wordC c1, wordC c2] m7 m327 hJ₆ hW3 (by simp) Tf (tree_ok hW3) (tree_min hW3 (by simp)) hfix (by have := sort_count [wordC c0, wordC c1, wordC c2]; simp only [List.length_cons, List.length_nil] at this; lia)) ?kd ?ku ?_)
            case k1 => k_asm
            case k2 => k_asm
            case k3 => k_asm
            case k4 => k_asm
            case k5 => k_asm
            case kd => k_room
            case ku => k_units
            intro v9 hZ tk9 n9 FZ NZ hP9
            (try dsimp only at FZ NZ hP9)
            (try dsimp only)
            refine hideGoal fun G9 back9 => ?_
            obtain ⟨Dt, x, dx, l, tl, tvs, e, eT, rfl, hDt, hTT, htl, htvs, hkeep, ps7, h7⟩ := hP9
            unfold tup2 at hDt
            have hp6 := hkeep (D₆, listO zs zs.length) m6 d6
            rw [told_left] at htvs
            refine back9 ?_
            clear back9 G9
            k_steps
            unfold Stop
            k_dflt (refine' site_use ?k1 ?k2 ?k3 ?k4 ?k5 (Site.of_list hp6 fun rest => left_c w _ _ rest D₆ zs zs.length [wordC c0, wordC c1, wordC c2] hJ₅ hW3 (by simp)) ?kd ?ku ?_)
            case k1 => k_asm
            case k2 => k_asm
            case k3 => k_asm
            case k4 => k_asm
            case k5 => k_asm
            case kd => k_room
            case ku => k_units
            intro v9 hZ tk9 n9 FZ NZ hP9
            (try dsimp only at FZ NZ hP9)
            (try dsimp only)
            refine hideGoal fun G9 back9 => ?_
            obtain ⟨D₈, ys₈, e₈, rfl, hys₈, rfl⟩ := hP9
            have hT8 := hTT.mono (n' := (D₈, listO ys₈ e₈) :: n9) (fun p hp => .tail _ hp)
            obtain ⟨⟨hsh, tkh, nn, vsT, epT, hx1, hx2, hx3, hx4⟩, hx5, hx6⟩ := id hT8
            have hszT : vsT.length ≤ 1000 := by rw [RowsAre.length hx4]; unfold rowsT; rw [List.length_map]; lia
            refine back9 ?_
            clear back9 G9
            k_steps
            unfold Stop
            refine ne_strs (xs := tvs) (ys := ys₈) (listIn (by k_asm) (.tail _ htl)) (listIn (by k_asm) (.head _)) htvs hys₈ (left_strs hW3) (left_strs hW3) (by first | ktr_units | (show un + 64 < cLine; lia)) ?_
            rw [decide_eq_true rfl]
            k_steps
            unfold Stop
            k_dflt (refine' site_use ?k1 ?k2 ?k3 ?k4 ?k5 (keys_c w _ _ _ x dx l hsh tkh nn epT vsT (rowsT Tf) hx1 hx2 hx3 hx4 hszT) ?kd ?ku ?_)
            case k1 => k_asm
            case k2 => k_asm
            case k3 => k_asm
            case k4 => k_asm
            case k5 => k_asm
            case kd => k_room
            case ku => k_units
            intro v9 hZ tk9 n9 FZ NZ hP9
            (try dsimp only at FZ NZ hP9)
            (try dsimp only)
            refine hideGoal fun G9 back9 => ?_
            obtain ⟨D₉, ys₉, rfl, hys₉, rfl⟩ := hP9
            rw [rows_fst, keys_fronts hW3 hfix] at hys₉
            refine back9 ?_
            clear back9 G9
            k_steps
            unfold Stop
            k_dflt (refine' site_use ?k1 ?k2 ?k3 ?k4 ?k5 (Site.of_list (.tail _ (.tail _ hp6)) fun rest => fronts_c w _ _ rest D₆ zs zs.length [wordC c0, wordC c1, wordC c2] hJ₅ hW3 (by simp)) ?kd ?ku ?_)
            case k1 => k_asm
            case k2 => k_asm
            case k3 => k_asm
            case k4 => k_asm
            case k5 => k_asm
            case kd => k_room
            case ku => k_units
            intro v9 hZ tk9 n9 FZ NZ hP9
            (try dsimp only at FZ NZ hP9)
            (try dsimp only)
            refine hideGoal fun G9 back9 => ?_
            obtain ⟨D₁, ys₁, e₁, rfl, hys₁, rfl⟩ := hP9
            refine back9 ?_
            clear back9 G9
            k_steps
            unfold Stop
            refine ne_strs (xs := ys₉) (ys := ys₁) (listIn (by k_asm) (.tail _ (.head _))) (listIn (by k_asm) (.head _)) hys₉ hys₁ (paths_strs (fronts_ok hW3)) (paths_strs (fronts_ok hW3)) (by first | ktr_units | (show un + 64 < cLine; lia)) ?_
            rw [decide_eq_true rfl]
            have hT9 := hT8.mono (n' := (D₁, listO ys₁ e₁) :: (D₉, lst ys₉) :: (D₈, listO ys₈ e₈) :: n9) (fun p hp => .tail _ (.tail _ hp))
            have hq6 := List.mem_cons_of_mem (D₁, listO ys₁ e₁) (List.mem_cons_of_mem (D₉, lst ys₉) (List.mem_cons_of_mem (D₈, listO ys₈ e₈) hp6))
            have hq7 := List.mem_cons_of_mem (D₁, listO ys₁ e₁) (List.mem_cons_of_mem (D₉, lst ys₉) (List.mem_cons_of_mem (D₈, listO ys₈ e₈) h7))
            (rename News _ _ _ (_ :: _ :: _ :: n9) => KN)
            generalize (D₁, listO ys₁ e₁) :: (D₉, lst ys₉) :: (D₈, listO ys₈ e₈) :: n9 = nl at KN hT9 hq6 hq7
            clear hT8 hTT hx1 hx2 hx3 hx4 hx5 hx6 hp6 htl hDt h7
            k_steps
            unfold Stop
            (rename IsRange _ _ _ _ _ _ _ _ => hrng)
            (rename News _ _ _ nl => NN)
            have hX : ((digs 8 c3).map signD).length = 8 := by simp [digs]
            have hXl := signs_letter (digs 8 c3)
            generalize (digs 8 c3).map signD = X at *
            refine iter_rangeUnr (n := 8) (by rfl) hrng (by decide) (by decide) (by assumption) NN ?_
            intro I hI
            have hlI := hT9.lt hI
            have dI6 := hI _ hq6
            have dI7 : 327 < I := hI _ hq7
            refine range_by (RunJ [wordC c0, wordC c1, wordC c2] X Tf x dx l D₆ (listO zs zs.length) ps7) ⟨⟨[], _, _, _, _, node_nil _, m4_eq rfl⟩, hT9, hq6, hq7⟩ ?turn ?done
            case turn =>
              intro k i t m₁ n₁ it h tk hitc hki x9 F₁ N₁
              refine hideGoal fun G9 back9 => ?_
              obtain ⟨⟨f, t₁, u1, u2, u4, hnode, rfl⟩, hT, hpl, hp7⟩ := x9
              dsimp only at F₁
              have hXz : (S X).length = 8 := by show X.toArray.size = 8; simpa using hX
              have hi8 : i < 8 := by lia
              obtain ⟨c, hc⟩ : ∃ c, X[i]? = some c := ⟨_, List.getElem?_eq_getElem (by lia)⟩
              have hcl : isLetter c = true := List.all_eq_true.mp hXl c (List.mem_of_getElem? hc)
              have hit : Txt.item (S X) (1 + (i : Int) - 1) = S [c] := item_meets (by lia) (by rw [show (1 + (i : Int) - 1).toNat = i by lia]; show X.toArray[i]? = some c; simpa using hc)
              refine back9 ?_
              clear back9 G9
              k_steps
              unfold Stop
              rw [hit]
              refine hideGoal fun G9 back9 => ?_
              obtain ⟨kw, r, hw, hnode'⟩ := node_step hW3 (by simp) hhalf hnode hcl
              refine back9 ?_
              clear back9 G9
              refine Stop.out ?_
              unfold Stop
              k_dflt (refine' site_use ?k1 ?k2 ?k3 ?k4 ?k5 (step_c w _ _ _ x dx l Tf c _ _ (some f) r kw (hT.mono (n' := (I, it) :: n₁) (fun p hp => .tail _ hp)) hcl ⟨_, rfl⟩ hw) ?kd ?ku ?_)
              case k1 => k_asm
              case k2 => k_asm
              case k3 => k_asm
              case k4 => k_asm
              case k5 => k_asm
              case kd => k_room
              case ku => k_units
              intro v9 hZ tk9 n9 FZ NZ hP9
              (try dsimp only at FZ NZ hP9)
              (try dsimp only)
              refine hideGoal fun G9 back9 => ?_
              obtain ⟨rfl, t₇, rfl⟩ := hP9
              refine back9 ?_
              clear back9 G9
              k_steps
              (rename News _ _ _ (_ :: (_, PySem.W.listOf #[] 0) :: _) => NN2)
              rename_i ch hh6 l1 Dz hh5 l2 hh4 hh3 hh2 FF2
              unfold Stop
              have dlch : l < ch := hT.lt (tb_ltOf l1.2)
              have dIch : I < ch := l1.1
              have d6ch : D₆ < ch := tb_ltOf l1.2 _ hpl
              have d7ch : 327 < ch := tb_ltOf l1.2 _ hp7
              refine hideGoal fun G9 back9 => ?_
              obtain ⟨nw, NN3, hTw, hchw, hIw, hpw, h7w⟩ : ∃ nw, News gR LR _ nw ∧ TabT nw x dx l Tf ∧ (ch, listO [] 0) ∈ nw ∧ (I, it) ∈ nw ∧ (D₆, listO zs zs.length) ∈ nw ∧ (327, tabObj ps7) ∈ nw := ⟨_, NN2, hT.mono (fun p hp => .tail _ (.tail _ (.tail _ hp))), .tail _ (.head _), .tail _ (.tail _ (.head _)), .tail _ (.tail _ (.tail _ hpl)), .tail _ (.tail _ (.tail _ hp7))⟩
              clear NN2
              have hchain := node_chain (by simp) hhalf hnode'
              have hrl := hnode'.len
              refine back9 ?_
              clear back9 G9
              refine while_startL (ChnJ (endsW ([wordC c0, wordC c1, wordC c2].map low) (low (X.take i ++ [c]))) Tf x dx l D₆ ch I (listO zs zs.length) it ps7 _) (n := r.length + 1) FF2 NN3 ⟨⟨some r, _, [], _, [], 0, hchain, rfl, by simp; lia, ⟨_, rfl⟩, hchw, .nil, mb_eq rfl⟩, hTw, hpw, hIw, h7w⟩ (by passes_own) ?_
              intro nk mk lk hk tkk x9 Fk Nk
              refine hideGoal fun G9 back9 => ?_
              obtain ⟨⟨av, v, dn, rr, cvs, e₃, hchn, hdn, hbd, hv, hcv, hcs, rfl⟩, hTk, hpk, hIk, h7k⟩ := x9
              (try dsimp only at Fk)
              have hcv9 : cvs.length ≤ 100 := by rw [strs_len hcs, List.length_map]; lia
              have hcv8 : cvs.length ≤ 1000 := by lia
              obtain ⟨⟨hsh, tkh, nn, vsT, epT, hx1, hx2, hx3, hx4⟩, hx5, hx6⟩ := id hTk
              cases hchn with
              | stop =>
                have hv' : v = .none := hv
                subst hv'
                rw [List.append_nil] at hdn
                subst hdn
                have hj : (1 + (i : Int)) = ((i + 1 : Nat) : Int) := by lia
                have hlow : Txt.lower (Txt.slice (S X) none (some (1 + (i : Int)))) = S (low (X.take i ++ [c])) := by rw [slice_takeA hj, lower_S (take_signs hXl _), take_snoc hc]
                have hzl : zs.length ≤ 1000 := by rw [strs_len hJ₅]; exact Nat.le_of_lt (by show 3 < 1000; decide)
                refine back9 ?_
                clear back9 G9
                k_steps
                unfold Stop
                refine compU_src (ep := zs.length) (fun r ys => ∃ Wr Wd, StrsAre r (Wr.map S) ∧ (∀ w ∈ Wr, okWord w = true) ∧ StrsAre ys (Wd.map S) ∧ Wd ++ Wr.map low = [wordC c0, wordC c1, wordC c2].map low) (by rfl) (by k_asm) (by k_asm) hpk hzl ⟨[wordC c0, wordC c1, wordC c2], [], hJ₅, hW3, .nil, rfl⟩ ?turn7 ?done7
                case turn7 =>
                  intro v₃ r₃ ys₃ I₃ oI₃ C₃ oC₃ D₃ m₃ hX₃ tkX E₃ hJ₇ hC₃ hx₃ FX NX offX ne₃
                  refine hideGoal fun G9 back9 => ?_
                  obtain ⟨Wr, Wd, hr', hok', hy', he'⟩ := hJ₇
                  cases Wr with
                  | nil => cases hr'
                  | cons one Wr =>
                    cases hr' with
                    | cons _ t₃ hr' =>
                      have oone := okWord_iff.mp (hok' one (List.mem_cons_self ..))
                      have hoz : (S one).length ≤ 1000 := by show one.toArray.size ≤ 1000; simp; lia
                      refine back9 ?_
                      clear back9 G9
                      k_steps
                      refine PEnd.intro (by k_asm) (by assumption) (fun _ h => h) ⟨Wr, Wd ++ [low one], hr', fun w hw => hok' w (List.mem_cons_of_mem _ hw), ?_, ?_⟩
                      · rw [lower_S (signs_of_letters oone.1), List.map_append]; exact strs_snoc hy'
                      · rw [← he']; simp
                case done7 =>
                  intro g ys hJ₇
                  refine hideGoal fun G9 back9 => ?_
                  obtain ⟨Wr, Wd, hr', hok', hy', he'⟩ := hJ₇
                  cases Wr with
                  | cons => cases hr'
                  | nil =>
                  rw [List.map_nil, List.append_nil] at he'
                  subst he'
                  refine back9 ?_
                  clear back9 G9
                  k_steps
                  unfold Stop
                  rw [hlow]
                  refine Stop.out ?_
                  have hul : (X.take i ++ [c]).all isLetter = true := by
                    rw [List.all_append, Bool.and_eq_true]
                    exact ⟨List.all_eq_true.mpr fun z hz => List.all_eq_true.mp hXl z (List.mem_of_mem_take hz), by simp [hcl]⟩
                  have hu8 : (low (X.take i ++ [c])).length ≤ 8 := by simp only [List.length_map, List.length_append, List.length_take, List.length_cons, List.length_nil]; lia
                  have hgk := paths_strs (ends_let (W := [wordC c0, wordC c1, wordC c2].map low) (low_letters hul))
                  unfold Stop
                  k_dflt (refine' site_use ?k1 ?k2 ?k3 ?k4 ?k5 (Site.of_list (.head _) fun rest => ends_c w _ _ rest _ (low (X.take i ++ [c])) _ ys ys.length ([wordC c0, wordC c1, wordC c2].map low) hy' (low_words hW3) (by simp) hu8 (low_letters hul)) ?kd ?ku ?_)
                  case k1 => k_asm
                  case k2 => k_asm
                  case k3 => k_asm
                  case k4 => k_asm
                  case k5 => k_asm
                  case kd => k_room
                  case ku => k_units
                  intro v9 hZ tk9 n9 FZ NZ hP9
                  (try dsimp only at FZ NZ hP9)
                  (try dsimp only)
                  refine hideGoal fun G9 back9 => ?_
                  obtain ⟨D₂, ys₂, e₂, rfl, hys₂, rfl⟩ := hP9
                  refine back9 ?_
                  clear back9 G9
                  k_steps
                  unfold Stop
                  refine ne_strs (xs := cvs) (ys := ys₂) (listIn (by k_asm) (.tail _ (.tail _ hcv))) (listIn (by k_asm) (.head _)) hcs hys₂ hgk hgk (by first | ktr_units | (show un + 64 < cLine; lia)) ?_
                  rw [decide_eq_true rfl]
                  (rename News _ _ _ (_ :: _ :: lk) => KN)
                  refine hideGoal fun G9 back9 => ?_
                  obtain ⟨n5, KN5, hT5, hI5, hp5, h75⟩ : ∃ n5, News gR LR _ n5 ∧ TabT n5 x dx l Tf ∧ (I, it) ∈ n5 ∧ (D₆, listO zs zs.length) ∈ n5 ∧ (327, tabObj ps7) ∈ n5 := ⟨_, KN, hTk.mono (fun p hp => .tail _ (.tail _ hp)), .tail _ (.tail _ hIk), .tail _ (.tail _ hpk), .tail _ (.tail _ h7k)⟩
                  refine back9 ?_
                  clear back9 G9
                  k_steps
                  refine LTurn.intro (frr (by assumption) ?nm8) KN5 hI5 ⟨⟨r, t₇, some (.ref ch), some .none, some (.int (1 + (i : Int)) t), by rw [take_snoc hc]; exact hnode', rfl⟩, hT5.off KN5 hI5 (by rw [hitc]; decide) (by rw [hitc]; decide) (by rw [hitc]; decide) (by rw [hitc]; decide), mem_off hp5 (Nat.ne_of_lt dI6), mem_off h75 (Nat.ne_of_lt dI7)⟩
                  case nm8 =>
                    intro z
                    by_cases h1 : z = nm "chain"
                    · subst h1; rfl
                    by_cases h2 : z = nm "back"
                    · subst h2; rfl
                    by_cases h3 : z = nm "node"
                    · subst h3; rfl
                    by_cases h4 : z = nm "size"
                    · subst h4; rfl
                    simp only [if_neg h1, if_neg h2, if_neg h3, if_neg h4]
              | root g1 =>
                obtain ⟨t₈, rfl⟩ := hv
                have hps := path_size (p := []) (by decide)
                refine back9 ?_
                clear back9 G9
                k_steps
                (rename News _ _ _ (setAt _ _ _) => KN)
                (try rw [path_root] at KN)
                refine hideGoal fun G9 back9 => ?_
                obtain ⟨ns, tq, KN3, hTn, hcn, hIn, hpn, h7n⟩ : ∃ ns tq, News gR LR _ ns ∧ TabT ns x dx l Tf ∧ (ch, listO (cvs ++ [.str (path []) tq]) (e₃ + 1)) ∈ ns ∧ (I, it) ∈ ns ∧ (D₆, listO zs zs.length) ∈ ns ∧ (327, tabObj ps7) ∈ ns := ⟨_, _, KN, TabT.setAt Nk hcv rfl (Nat.ne_of_gt dlch) hTk, mem_setAt_self hcv, mem_setAt_of hIk (Nat.ne_of_lt dIch), mem_setAt_of hpk (Nat.ne_of_lt d6ch), mem_setAt_of h7k (Nat.ne_of_lt d7ch)⟩
                clear KN hx1 hx2 hx3 hx4
                obtain ⟨⟨hsh2, tkh2, nn2, vsT2, epT2, hx1, hx2, hx3, hx4⟩, hx5, hx6⟩ := id hTn
                refine back9 ?_
                clear back9 G9
                k_steps
                unfold Stop
                k_dflt (refine' site_use ?k1 ?k2 ?k3 ?k4 ?k5 (getN w _ _ _ x dx l Tf [] _ hTn rfl (by decide) g1) ?kd ?ku ?_)
                case k1 => k_asm
                case k2 => k_asm
                case k3 => k_asm
                case k4 => k_asm
                case k5 => k_asm
                case kd => k_room
                case ku => k_units
                intro v9 hZ tk9 n9 FZ NZ hP9
                (try dsimp only at FZ NZ hP9)
                (try dsimp only)
                refine hideGoal fun G9 back9 => ?_
                obtain ⟨rfl, rfl⟩ := hP9
                refine back9 ?_
                clear back9 G9
                k_steps
                exact ⟨_, _, _, _, _, Nat.lt_succ_self _, ⟨⟨none, .none, dn ++ [[]], [], _, _, .stop, by rw [← hdn]; simp, by simp only [List.length_append, List.length_cons, List.length_nil]; lia, rfl, hcn, (by rw [List.map_append]; exact strs_snoc hcs), rfl⟩, hTn, hpn, hIn, h7n⟩, rfl, frr (by assumption) (by (intro z; by_cases h1 : z = (nm "back"); (focus (subst h1; rfl)); simp only [if_neg h1])), by assumption⟩
              | @back _ f' g r' g1 g2 g3 g4 g5 =>
                obtain ⟨t₈, rfl⟩ := hv
                have hps := path_size (p := f') (by lia)
                refine back9 ?_
                clear back9 G9
                k_steps
                (rename News _ _ _ (setAt _ _ _) => KN)
                rw [lower_path g2] at KN
                refine hideGoal fun G9 back9 => ?_
                obtain ⟨ns, tq, KN3, hTn, hcn, hIn, hpn, h7n⟩ : ∃ ns tq, News gR LR _ ns ∧ TabT ns x dx l Tf ∧ (ch, listO (cvs ++ [.str (path (low f')) tq]) (e₃ + 1)) ∈ ns ∧ (I, it) ∈ ns ∧ (D₆, listO zs zs.length) ∈ ns ∧ (327, tabObj ps7) ∈ ns := ⟨_, _, KN, TabT.setAt Nk hcv rfl (Nat.ne_of_gt dlch) hTk, mem_setAt_self hcv, mem_setAt_of hIk (Nat.ne_of_lt dIch), mem_setAt_of hpk (Nat.ne_of_lt d6ch), mem_setAt_of h7k (Nat.ne_of_lt d7ch)⟩
                clear KN hx1 hx2 hx3 hx4
                obtain ⟨⟨hsh2, tkh2, nn2, vsT2, epT2, hx1, hx2, hx3, hx4⟩, hx5, hx6⟩ := id hTn
                refine back9 ?_
                clear back9 G9
                k_steps
                unfold Stop
                k_dflt (refine' site_use ?k1 ?k2 ?k3 ?k4 ?k5 (getS w _ _ _ x dx l Tf f' (path g) _ hTn g2 (by lia) g4) ?kd ?ku ?_)
                case k1 => k_asm
                case k2 => k_asm
                case k3 => k_asm
                case k4 => k_asm
                case k5 => k_asm
                case kd => k_room
                case ku => k_units
                intro v9 hZ tk9 n9 FZ NZ hP9
                (try dsimp only at FZ NZ hP9)
                (try dsimp only)
                refine hideGoal fun G9 back9 => ?_
                obtain ⟨rfl, t₉, rfl⟩ := hP9
                refine back9 ?_
                clear back9 G9
                k_steps
                exact ⟨_, _, _, _, _, Nat.lt_succ_self _, ⟨⟨some g, .str (path g) t₉, dn ++ [low f'], r', _, _, g5, by rw [← hdn]; simp, by simp only [List.length_append, List.length_cons, List.length_nil]; lia, ⟨_, rfl⟩, hcn, (by rw [List.map_append]; exact strs_snoc hcs), rfl⟩, hTn, hpn, hIn, h7n⟩, rfl, frr (by assumption) (by (intro z; by_cases h1 : z = (nm "back"); (focus (subst h1; rfl)); simp only [if_neg h1])), by assumption⟩
            case done =>
              intro m₁ n₁ h tk x9 F₁ N₁
              refine hideGoal fun G9 back9 => ?_
              obtain ⟨⟨f, t₁, u1, u2, u4, hnode, rfl⟩, hT, hpl, hp7⟩ := x9
              (try dsimp only at F₁)
              refine back9 ?_
              clear back9 G9
              k_steps
              exact hret _ _ _ _ (by assumption) (by assumption) (by assumption) ⟨rfl, _, hp7⟩
end Mine88
end

-- part P35a
section
open PySem PySem.W PyProof.Rows PySem.Spec PySem.Calls
set_option maxRecDepth 100000
set_option maxHeartbeats 1000000
namespace Mine88
open PyProof.Rows.LCg
/-! a list of ints cut with a step -/
theorem ints_mem : ∀ {vs : List Value} {ns : List Int} {v : Value}, IntsAre vs ns → v ∈ vs → ∃ n t, v = .int n t
  | _, _, _, .nil, h => by cases h
  | _, _, _, .cons n t h', h => by
    rcases List.mem_cons.mp h with rfl | h
    · exact ⟨n, t, rfl⟩
    · exact ints_mem h' h
theorem pick_ints {items : Array Value} {ns : List Int} (hi : IntsAre items.toList ns) : ∀ (js : List Nat), ∃ ms, IntsAre (js.filterMap (items[·]?)) ms
  | [] => ⟨[], .nil⟩
  | j :: js => by
    obtain ⟨ms, h⟩ := pick_ints hi js
    cases e : items[j]? with
    | none => exact ⟨ms, by simpa [List.filterMap_cons, e] using h⟩
    | some v =>
      obtain ⟨n, t, rfl⟩ := ints_mem hi (Array.mem_toList_iff.mpr (Array.mem_of_getElem? e))
      exact ⟨n :: ms, by simp only [List.filterMap_cons, e]; exact .cons n t h⟩
section
variable {prog : PySem.Program} {w : World} {A : Around} {E : Value → Shared → Prop} {s : Shared} {h₀ : Heap} {L l : Addr} {m : PySem.Str → Option Value} {news : List (Addr × Obj)} {value slice : PySem.Expr} {vs : List Value} {ns : List Int} {vl vu vk : Value} {lo hi st : Option Int} {ops : List Value} {Q : Value → Shared → Prop}
theorem tail_temp {value slice : PySem.Expr} {o i : Value} {T id : String} {ops : List Value} {Q : Value → Shared → Prop} (hT : s.TypeIs o T)
    (hl : typeLookup (.type T) "__getitem__" = pure (some (.builtin id))) (h : wpAny (model prog w) A (getItem o i) Q E s)
    (hs : subscripted slice false o i = operate ops (getItem o i)) : wpAny (model prog w) A (subscriptTail value slice o i) Q E s := by
  unfold subscriptTail
  refine wpAny_bind ?_
  rw [getitemInPython_of_ne hT.not_modules]
  refine wpAny_bind (wpAny_specialOf hT hl ?_)
  have fin : wpAny (model prog w) A (subscripted slice false o i) (fun r s₃ => wpAny (model prog w) A (letTemporaryGo value o r >>= fun _ => pure r) Q E s₃) E s := by
    rw [hs]
    exact wpAny_operating (wpAny_mono h (fun r s₃ h₃ => wpAny_bind (wpAny_letTemporaryGo (wpAny_pure h₃))) fun _ _ x => x)
  first
    | exact wpAny_pure (wpAny_bind fin)
    | exact wpAny_bind (wpAny_pure (wpAny_bind fin))
    | exact wpAny_bind fin
theorem slice_any (F : Fr h₀ L s.heap m) (N : News h₀ L s.heap news) (hl : s.heap.IsList l vs.toArray) (pl : IsPart vl lo) (pu : IsPart vu hi) (pk : IsPart vk st) (h0 : st ≠ some 0) (hi' : IntsAre vs ns)
    (h : ∀ D ws ms h', Fr h₀ L h' m → News h₀ L h' ((D, listOf (List.toArray ws) 0) :: news) → (∀ p ∈ news, p.1 < D) → IntsAre ws ms → ws.length ≤ vs.length → Q (.ref D) { s with heap := h' })
    (hs : subscripted slice false (.ref l) (.ref s.heap.objs.size) = operate ops (getItem (.ref l) (.ref s.heap.objs.size))) (hz : ns.length ≤ 1000) :
    wpAny (model prog w) A (subscriptTail value slice (.ref l) (.ref s.heap.objs.size)) Q E { s with heap := s.heap.push { cls := .type "slice", data := .fields #[vl, vu, vk] } } := by
  obtain ⟨ms, hm⟩ := pick_ints (items := vs.toArray) (ns := ns) hi' (sliceRange (sliceBounds lo hi st vs.toArray.size).1 (sliceBounds lo hi st vs.toArray.size).2.1 (sliceBounds lo hi st vs.toArray.size).2.2)
  refine tail_temp (Heap.IsList.typeIs (s := { s with heap := s.heap.push { cls := .type "slice", data := .fields #[vl, vu, vk] } }) (hl.push _)) list_getitem_lookup
    (wpAny_getItem_list_slice (hl.push _) (Heap.IsSliceOf.new ..) pl pu pk h0 ?_ (by rw [List.size_toArray, sizeLine_eq, hi'.length]; lia)) hs
  have N1 := News.push (F.push { cls := .type "slice", data := .fields #[vl, vu, vk] }) (N.grown fun _ _ e => Heap.get?_push_of_some _ e) { cls := .type "list", data := .seq (slicePick vs.toArray lo hi st) }
  rw [Heap.size_push] at N1
  show Q (.ref (s.heap.push _).objs.size) _
  rw [Heap.size_push]
  refine h _ (slicePick vs.toArray lo hi st).toList ms _ ((F.push _).push _) ?_ (fun p hp => Nat.lt_succ_of_lt (Heap.lt_size (N p hp).1)) hm ?_
  · rw [Array.toArray_toList]
    exact N1
  · have q := slicePick_size_le vs.toArray lo hi st
    simpa using q
theorem first_item {l : Addr} {t0 t1 t2 t3 u : Tok} {k : Int} {e : Nat} (N : News h₀ L s.heap news) (hm : (l, { cls := .type "tuple", data := .seq #[.int 0 t0, .int 2411 t1, .int 1332 t2, .int 60290 t3] e }) ∈ news) (h0 : 0 ≤ k) (h4 : k < 4)
    (h : ∀ n t, 0 ≤ n → n ≤ 60290 → Q (.int n t) s) (hs : subscripted slice false (.ref l) (.int k u) = operate [.ref l, .int k u] (getItem (.ref l) (.int k u)) := by with_unfolding_all rfl) :
    wpAny (model prog w) A (subscriptTail value slice (.ref l) (.int k u)) Q E s := by
  have ht : IsTup s.heap l [.int 0 t0, .int 2411 t1, .int 1332 t2, .int 60290 t3].toArray := News.isTup N hm
  have : k = 0 ∨ k = 1 ∨ k = 2 ∨ k = 3 := by lia
  rcases this with rfl | rfl | rfl | rfl
  · exact item_tupleT ht (j := 0) (x := .int 0 t0) (by decide) (by decide) rfl rfl (h 0 t0 (by decide) (by decide)) hs
  · exact item_tupleT ht (j := 1) (x := .int 2411 t1) (by decide) (by decide) rfl rfl (h 2411 t1 (by decide) (by decide)) hs
  · exact item_tupleT ht (j := 2) (x := .int 1332 t2) (by decide) (by decide) rfl rfl (h 1332 t2 (by decide) (by decide)) hs
  · exact item_tupleT ht (j := 3) (x := .int 60290 t3) (by decide) (by decide) rfl rfl (h 60290 t3 (by decide) (by decide)) hs
end
/-- ints of 1 .. 1000003 -/
noncomputable def Small (ms : List Int) : Prop := ∀ n ∈ ms, 0 ≤ n ∧ n ≤ 1000003
theorem small_sum : ∀ {ms : List Int}, Small ms → 0 ≤ ms.sum ∧ ms.sum ≤ 1000003 * (ms.length : Int)
  | [], _ => by simp
  | a :: ms, h => by
    have h1 := h a (List.mem_cons_self ..)
    have h2 := small_sum (ms := ms) fun n hn => h n (List.mem_cons_of_mem _ hn)
    simp only [List.sum_cons, List.length_cons]
    lia
theorem isnoc {vs : List Value} {ms : List Int} {n : Int} {t : Tok} (h : IntsAre vs ms) : IntsAre (vs ++ [.int n t]) (ms ++ [n]) := h.append (.cons n t .nil)
theorem small_snoc {ms : List Int} {n : Int} (h : Small ms) (h0 : 0 ≤ n) (h1 : n ≤ 1000003) : Small (ms ++ [n]) := by
  intro x hx
  rcases List.mem_append.mp hx with hx | hx
  · exact h x hx
  · rw [List.mem_singleton.mp hx]; exact ⟨h0, h1⟩
theorem small_nil : Small [] := by
  intro n hn; cases hn
theorem fmod_small (n : Int) : 0 ≤ n.fmod 1000003 ∧ n.fmod 1000003 < 1000003 := by
  rw [Int.fmod_eq_emod_of_nonneg n (by decide)]
  exact ⟨Int.emod_nonneg n (by decide), Int.emod_lt_of_pos n (by decide)⟩
end Mine88
end

-- part P35b
section
open PySem PySem.W PyProof.Rows PySem.Spec PySem.Calls
set_option maxRecDepth 100000
set_option maxHeartbeats 1000000
namespace Mine88
open PyProof.Rows.LCg
theorem nats_snoc : ∀ {zs : List Value} {cs : List Nat} {n : Int} {t : Tok}, NatsAre zs cs → 0 ≤ n → NatsAre (zs ++ [.int n t]) (cs ++ [n.toNat])
  | _, _, n, t, .nil, h => by
    have := NatsAre.cons n.toNat t .nil
    rwa [Int.toNat_of_nonneg h] at this
  | _, _, n, t, .cons c u r, h => .cons c u (nats_snoc r h)
theorem small_cs {cs : List Nat} {n : Int} (h : ∀ c ∈ cs, c ≤ 1000000000) (h1 : n ≤ 1000000000) : ∀ c ∈ cs ++ [n.toNat], c ≤ 1000000000 := by
  intro c hc
  rcases List.mem_append.mp hc with hc | hc
  · exact h c hc
  · rw [List.mem_singleton.mp hc]; lia
theorem run_site (w : World) (dp un : Nat) (news : Led) (ca : Addr) (zs : List Value) (we : Nat) (cs : List Nat) (hm : (ca, listO zs we) ∈ news) (h7 : (327, tabObj #[]) ∈ news) (hz : NatsAre zs cs) (hb : ∀ c ∈ cs, c ≤ 1000000000) (hl : cs.length = 4) :
    Site w dp un 200 2000 354 [.ref ca] [] news (fun v _ n' => v = .bool true ∧ ∃ ps, (327, tabObj ps) ∈ n') := by
  cases hz with
  | nil => cases hl
  | @cons _ cs c0 t0 hz =>
  cases hz with
  | nil => cases hl
  | @cons _ cs c1 t1 hz =>
  cases hz with
  | nil => cases hl
  | @cons _ cs c2 t2 hz =>
  cases hz with
  | nil => cases hl
  | @cons _ cs c3 t3 hz =>
  cases hz with
  | cons => cases hl
  | nil =>
  refine Site.of_R (rest := []) ?_ (by intro p hp; cases hp) (run_c w dp un [] ca c0 c1 c2 c3 t0 t1 t2 t3 we (hb _ (by simp)) (hb _ (by simp)) (hb _ (by simp)) (hb _ (by simp))) (fun _ _ _ _ _ _ n p => ⟨n, p, fun q hq => List.mem_append_left _ hq⟩)
  intro p hp
  rcases List.mem_cons.mp hp with rfl | hp
  · exact hm
  · rw [List.mem_singleton.mp hp]; exact h7
end Mine88
end

-- part P35
section
open PySem PySem.W PyProof.Rows PySem.Spec PySem.Calls
set_option maxRecDepth 100000
set_option maxHeartbeats 1000000
namespace Mine88
open PyProof.Rows.LCg
theorem set_rows_P35 : True := by
  k_with_none
  k_with "call builtin:issubclass" => (k_here; (with_reducible show wpAny _ _ (call (Value.builtin "issubclass") [Value.type "str", Value.ref _]) _ _ _); k_dflt (refine' issub_call ?k1 ?_; (case k1 => exact News.get (by assumption) (by k_mem)); k_whole); intro tk_z)
  k_with "truthy str" => (k_here; (with_reducible show wpAny _ _ (PySem.truthy (Value.str _ _)) _ _ _); (refine' KXt.truthy_pos (K := 1000) ?kxta ?kxtb ?kxtc ?_; (case kxta => assumption); (case kxtb => assumption); (case kxtc => exact Nat.le_of_ble_eq_true rfl)); intro _)
  k_with "call builtin:list.append" => (k_here; (with_reducible show wpAny _ _ (call (Value.builtin _) [Value.ref _, _]) _ _ _); k_dflt (refine' append_in ?k1 ?k2 ?k3 ?k4 ?_; (case k1 => k_asm); (case k2 => k_asm); (case k3 => k_mem); (case k4 => first | assumption | (simp only [List.length_append, List.length_cons, List.length_nil]; omega)); k_whole); intro h'_z F'_z N'_z)
  k_with "SrcLP" => (k_here; refine Stop.out ?_)
  k_with "CompSrc" => (k_here; refine Stop.out ?_)
  k_with "CompSrcT" => (k_here; refine Stop.out ?_)
  k_with "exec For Name Name cons nil" => (k_here; (rename Fr _ _ _ _ => lF'); (with_unfolding_all refine' For_invVF lF' ?k1 ?k2 ?_; (case k1 => exact rfl); (case k2 => exact rfl); k_whole))
  k_with "exec For Name Call cons nil" => (k_here; (rename Fr _ _ _ _ => lF'); (with_unfolding_all refine' For_invVF lF' ?k1 ?k2 ?_; (case k1 => exact rfl); (case k2 => exact rfl); k_whole))
  k_with "pyIter ref" => ((with_reducible show wpAny _ _ (pyIter (Value.ref _)) (fun it s₂ => LoopAtV _ _ _ _ _ _ _ _ _ it s₂) _ _); k_here; refine Stop.out ?_)
  k_with "eval ListComp" => (k_here; (with_reducible show wpAny _ _ (eval (PySem.Expr.ListComp _ [⟨PySem.Expr.Name _ _, _, _, _⟩] _ _) _) _ _ _); k_dflt (refine' ListComp_C ?F ?cl ?cf ?pc ?kd ?nm ?hx ?_ ?hs; (case cl => with_unfolding_all rfl); (case cf => exact fun _ => rfl); (case pc => exact fun _ => rfl); (case F => k_asm); (case kd => rfl); (case nm => decide); (case hx => rfl); (case hs => (intro _; rfl))))
  k_with "exec Assign cons ListComp" => (k_here; (with_reducible show wpAny _ _ (exec (Stmt.Assign [PySem.Expr.Name _ _] (PySem.Expr.ListComp _ [⟨PySem.Expr.Name _ _, _, _, _⟩] _ _) _) _) _ _ _); k_dflt (refine' Assign_ListComp_C ?F ?le ?sw ?cl ?cf ?pc ?kd ?nm ?hx ?hy ?hp ?_ ?hs; (case cl => with_unfolding_all rfl); (case cf => exact fun _ => rfl); (case pc => exact fun _ => rfl); (case F => k_asm); (case le => rfl); (case sw => with_unfolding_all rfl); (case kd => rfl); (case nm => decide); (case hx => rfl); (case hy => rfl); (case hp => rfl); (case hs => (intro _; rfl))))
  k_with "call ref" => (k_here; (with_reducible show wpAny _ _ (call (Value.ref _) _ _) _ _ _); refine Stop.out ?_)
  k_with "subscriptTail" => (k_here; (with_reducible show wpAny _ _ (subscriptTail _ (PySem.Expr.Name _ _) (Value.ref _) (Value.int _ _)) _ _ _); k_dflt (refine' first_item ?zN ?zl ?zi ?zj ?_ ?zs; (case zN => k_asm); (case zl => k_mem); (case zi => omega); (case zj => omega); (case zs => with_unfolding_all rfl); k_whole); intro n9_z t9_z ha9_z hb9_z)
  k_with "subscriptTail" => (k_here; (with_reducible show wpAny _ _ (subscriptTail _ (PySem.Expr.Slice _ _ (some _) _) (Value.ref _) (Value.ref _)) _ _ _); k_dflt (refine' slice_any ?zF ?zN ?zl ?zp ?zq ?zk ?zo ?zi ?_ ?zs ?zz; (case zF => k_asm); (case zN => k_asm); (case zl => kmk_list); (case zp => kmk_part); (case zq => kmk_part); (case zk => kmk_part); (case zo => decide); (case zi => l_ints); (case zs => with_unfolding_all rfl); (case zz => (simp only [List.length_take]; omega)); k_whole); intro D9_z ws9_z ms9_z h'_z F'_z N'_z l9_z hI9_z hC9_z; (try k_lt l9_z))
  trivial
theorem law_all : PySem.Challenge.rw_rt0088_01.Holds := by
  refine Mine88.hd ?_
  (try delta Mine88.hd.H_39 Mine88.hd.row_39 Mine88.hd.rec_39 Mine88.hd.loose_39 Mine88.hd.lv_39)
  k_go0
  (all_goals try k_fold)
  k_steps
  unfold Stop
  refine compU_range (n := 4) (fun i zs => ∃ cs, NatsAre zs cs ∧ (∀ c ∈ cs, c ≤ 1000000000) ∧ cs.length = i) (by rfl) (by k_asm) (by k_asm) (by assumption) (by decide) (by decide) (by decide) ⟨[], .nil, by simp, rfl⟩ ?_ ?_
  · intro i tk₀ zs I₃ oI₃ C₃ oC₃ D₃ m₃ hX tkX E₃ hi hJ₃ hC₃ hx₃ FX NX offX ne₃
    have hi4 : (i : Int) < 4 := by lia
    k_steps
    have hW9 := IntsAre.length ‹IntsAre _ (List.take 60 _)›
    simp only [List.length_take] at hW9
    unfold Stop
    refine compU_src (fun r ys => (∃ ns, IntsAre r ns) ∧ ∃ ms, IntsAre ys ms ∧ Small ms ∧ ms.length + r.length ≤ 60) (by rfl) (by k_asm) (by k_asm) (by k_mem) (by lia) ⟨⟨_, hI9_z⟩, [], .nil, small_nil, by simp; lia⟩ ?_ ?_
    · intro v₃ r ws I₄ oI₄ C₄ oC₄ D₄ m₄ hY tkY E₄ hJ₄ hC₄ hx₄ FY NY offY ne₄
      refine hideGoal fun G9 back9 => ?_
      obtain ⟨⟨ns, hr⟩, ms, hms, hsm, hle⟩ := hJ₄
      cases hr with
      | @cons n t₇ _ ns hr =>
      refine back9 ?_
      clear back9 G9
      k_steps
      exact PEnd.intro (by k_asm) (by assumption) (fun _ h => h) ⟨⟨_, hr⟩, _, isnoc hms, small_snoc hsm (by have := (fmod_small n).1; lia) (by have := (fmod_small n).2; lia), by simp only [List.length_append, List.length_cons, List.length_nil] at hle ⊢; lia⟩
    · intro g ws hJ₄
      refine hideGoal fun G9 back9 => ?_
      obtain ⟨hr, ms, hms, hsm, hle⟩ := hJ₄
      clear hr
      have hsum := small_sum hsm
      simp only [List.length_nil] at hle
      refine back9 ?_
      clear back9 G9
      k_steps
      refine hideGoal fun G9 back9 => ?_
      obtain ⟨cs, hcs, hcb, hcl⟩ := hJ₃
      refine back9 ?_
      clear back9 G9
      exact PEnd.intro (by k_asm) (by assumption) (fun _ h => .tail _ (.tail _ (.tail _ h))) ⟨_, nats_snoc hcs (by lia), small_cs hcb (by lia), by rw [List.length_append, hcl]; rfl⟩
  · intro g zs hJ₃
    obtain ⟨cs, hcs, hcb, hcl⟩ := hJ₃
    k_steps
    unfold Stop
    k_dflt (refine' site_use ?k1 ?k2 ?k3 ?k4 ?k5 (run_site _ _ _ _ _ _ _ cs (.head _) (.tail _ (.tail _ (.tail _ (.tail _ (.head _))))) hcs hcb hcl) ?kd ?ku ?_)
    case k1 => k_asm
    case k2 => k_asm
    case k3 => k_asm
    case k4 => k_asm
    case k5 => k_asm
    case kd => k_room
    case ku => k_units
    intro v9 hZ tk9 n9 FZ NZ hP9
    (try dsimp only at FZ NZ hP9)
    (try dsimp only)
    obtain ⟨rfl, ps, h7⟩ := hP9
    k_steps
end Mine88
end

end
theorem PySem.Challenge.cw_rt0088_01_holds : PySem.Challenge.rw_rt0088_01.Holds :=
  Mine88.law_all
