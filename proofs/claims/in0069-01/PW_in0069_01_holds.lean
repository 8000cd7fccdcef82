import PyProof.Rows.All
import Wide.All
import OpenK.AllK
import Wide.FinOn
import PySem.Challenge.RW_in0069_01
open PySem PySem.W PyProof.Rows
set_option Elab.async false
set_option maxRecDepth 100000
namespace Mine
namespace hd
noncomputable def stAt : List Stmt → Nat → Stmt
  | [], _ => .Pass ⟨0, 0, 0, 0⟩
  | s :: _, 0 => s
  | _ :: l, n + 1 => stAt l n
noncomputable def inCls (n : Nat) : Stmt → Stmt
  | .ClassDef _ _ _ b .. => stAt b n
  | s => s
noncomputable def argsOf : Stmt → Arguments
  | .FunctionDef _ a .. => a
  | _ => ⟨[], [], none, [], [], none, []⟩
noncomputable def bodyOf : Stmt → List Stmt
  | .FunctionDef _ _ b .. => b
  | _ => []
noncomputable def scopeOf : Stmt → Scope
  | .FunctionDef _ _ _ _ _ _ c .. => c
  | _ => ⟨.function, [], false, false, []⟩
noncomputable abbrev PW : Program := PySem.Challenge.pw_in0069_01
noncomputable abbrev top (n : Nat) : Stmt := stAt PySem.Challenge.pw_in0069_01.main.body n
noncomputable def v1 (s : String) (t : Nat) : Value := .str (Str.ofString s) t
noncomputable def v2 (a : Nat) : Value := .ref a
noncomputable def v3 (i : Int) (t : Nat) : Value := .int i t
noncomputable def de (P : Params) (s : String) (t : Nat) (v : Value) : DictEntry := ⟨PySem.PyData.keyHash P (Str.ofString s), .str (Str.ofString s) t, v⟩
noncomputable def ob (c : Value) (d : Option Nat) (x : Data) (sl : Array (Option Value)) : Obj := .mk c d x sl
noncomputable def fo (n q : String) (a : Arguments) (b : List Stmt) (c : Scope) (m : Value) (k : Nat) : Obj :=
  .mk (.type "function") (none : Option Nat) (.func (.mk (Str.ofString n) (Str.ofString q) a (.stmts b) c (3 : Nat) ([] : List (Str × Nat)) .none .none .none m (none : Option Nat) (.ref k) .none (0 : Nat))) #[]
noncomputable def s0 : Stmt := by
  refine' (?f : ∀ b : Stmt, top 0 = b → Stmt) _ ?h
  case h => conv => lhs; whnf
  case f => exact fun b _ => b
noncomputable def s1 : Stmt := by
  refine' (?f : ∀ b : Stmt, top 1 = b → Stmt) _ ?h
  case h => conv => lhs; whnf
  case f => exact fun b _ => b
noncomputable def s3 : Stmt := by
  refine' (?f : ∀ b : Stmt, top 3 = b → Stmt) _ ?h
  case h => conv => lhs; whnf
  case f => exact fun b _ => b
noncomputable def s4 : Stmt := by
  refine' (?f : ∀ b : Stmt, top 4 = b → Stmt) _ ?h
  case h => conv => lhs; whnf
  case f => exact fun b _ => b
noncomputable def s5 : Stmt := by
  refine' (?f : ∀ b : Stmt, top 5 = b → Stmt) _ ?h
  case h => conv => lhs; whnf
  case f => exact fun b _ => b
noncomputable def s7 : Stmt := by
  refine' (?f : ∀ b : Stmt, top 7 = b → Stmt) _ ?h
  case h => conv => lhs; whnf
  case f => exact fun b _ => b
noncomputable def s8 : Stmt := by
  refine' (?f : ∀ b : Stmt, top 8 = b → Stmt) _ ?h
  case h => conv => lhs; whnf
  case f => exact fun b _ => b
noncomputable def s10 : Stmt := by
  refine' (?f : ∀ b : Stmt, top 10 = b → Stmt) _ ?h
  case h => conv => lhs; whnf
  case f => exact fun b _ => b
noncomputable def s12 : Stmt := by
  refine' (?f : ∀ b : Stmt, top 12 = b → Stmt) _ ?h
  case h => conv => lhs; whnf
  case f => exact fun b _ => b
noncomputable def s14 : Stmt := by
  refine' (?f : ∀ b : Stmt, top 14 = b → Stmt) _ ?h
  case h => conv => lhs; whnf
  case f => exact fun b _ => b
noncomputable def s16 : Stmt := by
  refine' (?f : ∀ b : Stmt, top 16 = b → Stmt) _ ?h
  case h => conv => lhs; whnf
  case f => exact fun b _ => b
noncomputable def s17 : Stmt := by
  refine' (?f : ∀ b : Stmt, top 17 = b → Stmt) _ ?h
  case h => conv => lhs; whnf
  case f => exact fun b _ => b
noncomputable def s19 : Stmt := by
  refine' (?f : ∀ b : Stmt, top 19 = b → Stmt) _ ?h
  case h => conv => lhs; whnf
  case f => exact fun b _ => b
noncomputable def s21 : Stmt := by
  refine' (?f : ∀ b : Stmt, top 21 = b → Stmt) _ ?h
  case h => conv => lhs; whnf
  case f => exact fun b _ => b
noncomputable def s23 : Stmt := by
  refine' (?f : ∀ b : Stmt, top 23 = b → Stmt) _ ?h
  case h => conv => lhs; whnf
  case f => exact fun b _ => b
noncomputable def s24 : Stmt := by
  refine' (?f : ∀ b : Stmt, top 24 = b → Stmt) _ ?h
  case h => conv => lhs; whnf
  case f => exact fun b _ => b
noncomputable def s25 : Stmt := by
  refine' (?f : ∀ b : Stmt, top 25 = b → Stmt) _ ?h
  case h => conv => lhs; whnf
  case f => exact fun b _ => b
noncomputable def s26 : Stmt := by
  refine' (?f : ∀ b : Stmt, top 26 = b → Stmt) _ ?h
  case h => conv => lhs; whnf
  case f => exact fun b _ => b
noncomputable def s27 : Stmt := by
  refine' (?f : ∀ b : Stmt, top 27 = b → Stmt) _ ?h
  case h => conv => lhs; whnf
  case f => exact fun b _ => b
noncomputable def s29 : Stmt := by
  refine' (?f : ∀ b : Stmt, top 29 = b → Stmt) _ ?h
  case h => conv => lhs; whnf
  case f => exact fun b _ => b
noncomputable def s30 : Stmt := by
  refine' (?f : ∀ b : Stmt, top 30 = b → Stmt) _ ?h
  case h => conv => lhs; whnf
  case f => exact fun b _ => b
noncomputable def s31 : Stmt := by
  refine' (?f : ∀ b : Stmt, top 31 = b → Stmt) _ ?h
  case h => conv => lhs; whnf
  case f => exact fun b _ => b
noncomputable def s32 : Stmt := by
  refine' (?f : ∀ b : Stmt, top 32 = b → Stmt) _ ?h
  case h => conv => lhs; whnf
  case f => exact fun b _ => b
noncomputable def s33 : Stmt := by
  refine' (?f : ∀ b : Stmt, top 33 = b → Stmt) _ ?h
  case h => conv => lhs; whnf
  case f => exact fun b _ => b
noncomputable def s34 : Stmt := by
  refine' (?f : ∀ b : Stmt, top 34 = b → Stmt) _ ?h
  case h => conv => lhs; whnf
  case f => exact fun b _ => b
noncomputable def s35 : Stmt := by
  refine' (?f : ∀ b : Stmt, top 35 = b → Stmt) _ ?h
  case h => conv => lhs; whnf
  case f => exact fun b _ => b
noncomputable def s36 : Stmt := by
  refine' (?f : ∀ b : Stmt, top 36 = b → Stmt) _ ?h
  case h => conv => lhs; whnf
  case f => exact fun b _ => b
noncomputable def s37 : Stmt := by
  refine' (?f : ∀ b : Stmt, top 37 = b → Stmt) _ ?h
  case h => conv => lhs; whnf
  case f => exact fun b _ => b
noncomputable def s38 : Stmt := by
  refine' (?f : ∀ b : Stmt, top 38 = b → Stmt) _ ?h
  case h => conv => lhs; whnf
  case f => exact fun b _ => b
noncomputable def a38 : Arguments := by
  refine' (?f : ∀ b : Arguments, argsOf (top 1) = b → Arguments) _ ?h
  case h => conv => lhs; whnf
  case f => exact fun b _ => b
noncomputable def b38 : List Stmt := by
  refine' (?f : ∀ b : List Stmt, bodyOf (top 1) = b → List Stmt) _ ?h
  case h => conv => lhs; whnf
  case f => exact fun b _ => b
noncomputable def c38 : Scope := by
  refine' (?f : ∀ b : Scope, scopeOf (top 1) = b → Scope) _ ?h
  case h => conv => lhs; whnf
  case f => exact fun b _ => b
noncomputable def a45 : Arguments := by
  refine' (?f : ∀ b : Arguments, argsOf (top 3) = b → Arguments) _ ?h
  case h => conv => lhs; whnf
  case f => exact fun b _ => b
noncomputable def b45 : List Stmt := by
  refine' (?f : ∀ b : List Stmt, bodyOf (top 3) = b → List Stmt) _ ?h
  case h => conv => lhs; whnf
  case f => exact fun b _ => b
noncomputable def c45 : Scope := by
  refine' (?f : ∀ b : Scope, scopeOf (top 3) = b → Scope) _ ?h
  case h => conv => lhs; whnf
  case f => exact fun b _ => b
noncomputable def a52 : Arguments := by
  refine' (?f : ∀ b : Arguments, argsOf (top 4) = b → Arguments) _ ?h
  case h => conv => lhs; whnf
  case f => exact fun b _ => b
noncomputable def b52 : List Stmt := by
  refine' (?f : ∀ b : List Stmt, bodyOf (top 4) = b → List Stmt) _ ?h
  case h => conv => lhs; whnf
  case f => exact fun b _ => b
noncomputable def c52 : Scope := by
  refine' (?f : ∀ b : Scope, scopeOf (top 4) = b → Scope) _ ?h
  case h => conv => lhs; whnf
  case f => exact fun b _ => b
noncomputable def a69 : Arguments := by
  refine' (?f : ∀ b : Arguments, argsOf (top 8) = b → Arguments) _ ?h
  case h => conv => lhs; whnf
  case f => exact fun b _ => b
noncomputable def b69 : List Stmt := by
  refine' (?f : ∀ b : List Stmt, bodyOf (top 8) = b → List Stmt) _ ?h
  case h => conv => lhs; whnf
  case f => exact fun b _ => b
noncomputable def c69 : Scope := by
  refine' (?f : ∀ b : Scope, scopeOf (top 8) = b → Scope) _ ?h
  case h => conv => lhs; whnf
  case f => exact fun b _ => b
noncomputable def a76 : Arguments := by
  refine' (?f : ∀ b : Arguments, argsOf (top 10) = b → Arguments) _ ?h
  case h => conv => lhs; whnf
  case f => exact fun b _ => b
noncomputable def b76 : List Stmt := by
  refine' (?f : ∀ b : List Stmt, bodyOf (top 10) = b → List Stmt) _ ?h
  case h => conv => lhs; whnf
  case f => exact fun b _ => b
noncomputable def c76 : Scope := by
  refine' (?f : ∀ b : Scope, scopeOf (top 10) = b → Scope) _ ?h
  case h => conv => lhs; whnf
  case f => exact fun b _ => b
noncomputable def a83 : Arguments := by
  refine' (?f : ∀ b : Arguments, argsOf (top 12) = b → Arguments) _ ?h
  case h => conv => lhs; whnf
  case f => exact fun b _ => b
noncomputable def b83 : List Stmt := by
  refine' (?f : ∀ b : List Stmt, bodyOf (top 12) = b → List Stmt) _ ?h
  case h => conv => lhs; whnf
  case f => exact fun b _ => b
noncomputable def c83 : Scope := by
  refine' (?f : ∀ b : Scope, scopeOf (top 12) = b → Scope) _ ?h
  case h => conv => lhs; whnf
  case f => exact fun b _ => b
noncomputable def a97 : Arguments := by
  refine' (?f : ∀ b : Arguments, argsOf (inCls 0 (top 14)) = b → Arguments) _ ?h
  case h => conv => lhs; whnf
  case f => exact fun b _ => b
noncomputable def b97 : List Stmt := by
  refine' (?f : ∀ b : List Stmt, bodyOf (inCls 0 (top 14)) = b → List Stmt) _ ?h
  case h => conv => lhs; whnf
  case f => exact fun b _ => b
noncomputable def c97 : Scope := by
  refine' (?f : ∀ b : Scope, scopeOf (inCls 0 (top 14)) = b → Scope) _ ?h
  case h => conv => lhs; whnf
  case f => exact fun b _ => b
noncomputable def a116 : Arguments := by
  refine' (?f : ∀ b : Arguments, argsOf (inCls 0 (top 16)) = b → Arguments) _ ?h
  case h => conv => lhs; whnf
  case f => exact fun b _ => b
noncomputable def b116 : List Stmt := by
  refine' (?f : ∀ b : List Stmt, bodyOf (inCls 0 (top 16)) = b → List Stmt) _ ?h
  case h => conv => lhs; whnf
  case f => exact fun b _ => b
noncomputable def c116 : Scope := by
  refine' (?f : ∀ b : Scope, scopeOf (inCls 0 (top 16)) = b → Scope) _ ?h
  case h => conv => lhs; whnf
  case f => exact fun b _ => b
noncomputable def a123 : Arguments := by
  refine' (?f : ∀ b : Arguments, argsOf (inCls 1 (top 16)) = b → Arguments) _ ?h
  case h => conv => lhs; whnf
  case f => exact fun b _ => b
noncomputable def b123 : List Stmt := by
  refine' (?f : ∀ b : List Stmt, bodyOf (inCls 1 (top 16)) = b → List Stmt) _ ?h
  case h => conv => lhs; whnf
  case f => exact fun b _ => b
noncomputable def c123 : Scope := by
  refine' (?f : ∀ b : Scope, scopeOf (inCls 1 (top 16)) = b → Scope) _ ?h
  case h => conv => lhs; whnf
  case f => exact fun b _ => b
noncomputable def a130 : Arguments := by
  refine' (?f : ∀ b : Arguments, argsOf (inCls 2 (top 16)) = b → Arguments) _ ?h
  case h => conv => lhs; whnf
  case f => exact fun b _ => b
noncomputable def b130 : List Stmt := by
  refine' (?f : ∀ b : List Stmt, bodyOf (inCls 2 (top 16)) = b → List Stmt) _ ?h
  case h => conv => lhs; whnf
  case f => exact fun b _ => b
noncomputable def c130 : Scope := by
  refine' (?f : ∀ b : Scope, scopeOf (inCls 2 (top 16)) = b → Scope) _ ?h
  case h => conv => lhs; whnf
  case f => exact fun b _ => b
noncomputable def a142 : Arguments := by
  refine' (?f : ∀ b : Arguments, argsOf (top 17) = b → Arguments) _ ?h
  case h => conv => lhs; whnf
  case f => exact fun b _ => b
noncomputable def b142 : List Stmt := by
  refine' (?f : ∀ b : List Stmt, bodyOf (top 17) = b → List Stmt) _ ?h
  case h => conv => lhs; whnf
  case f => exact fun b _ => b
noncomputable def c142 : Scope := by
  refine' (?f : ∀ b : Scope, scopeOf (top 17) = b → Scope) _ ?h
  case h => conv => lhs; whnf
  case f => exact fun b _ => b
noncomputable def a149 : Arguments := by
  refine' (?f : ∀ b : Arguments, argsOf (top 19) = b → Arguments) _ ?h
  case h => conv => lhs; whnf
  case f => exact fun b _ => b
noncomputable def b149 : List Stmt := by
  refine' (?f : ∀ b : List Stmt, bodyOf (top 19) = b → List Stmt) _ ?h
  case h => conv => lhs; whnf
  case f => exact fun b _ => b
noncomputable def c149 : Scope := by
  refine' (?f : ∀ b : Scope, scopeOf (top 19) = b → Scope) _ ?h
  case h => conv => lhs; whnf
  case f => exact fun b _ => b
noncomputable def a156 : Arguments := by
  refine' (?f : ∀ b : Arguments, argsOf (top 21) = b → Arguments) _ ?h
  case h => conv => lhs; whnf
  case f => exact fun b _ => b
noncomputable def b156 : List Stmt := by
  refine' (?f : ∀ b : List Stmt, bodyOf (top 21) = b → List Stmt) _ ?h
  case h => conv => lhs; whnf
  case f => exact fun b _ => b
noncomputable def c156 : Scope := by
  refine' (?f : ∀ b : Scope, scopeOf (top 21) = b → Scope) _ ?h
  case h => conv => lhs; whnf
  case f => exact fun b _ => b
noncomputable def a163 : Arguments := by
  refine' (?f : ∀ b : Arguments, argsOf (top 23) = b → Arguments) _ ?h
  case h => conv => lhs; whnf
  case f => exact fun b _ => b
noncomputable def b163 : List Stmt := by
  refine' (?f : ∀ b : List Stmt, bodyOf (top 23) = b → List Stmt) _ ?h
  case h => conv => lhs; whnf
  case f => exact fun b _ => b
noncomputable def c163 : Scope := by
  refine' (?f : ∀ b : Scope, scopeOf (top 23) = b → Scope) _ ?h
  case h => conv => lhs; whnf
  case f => exact fun b _ => b
noncomputable def a170 : Arguments := by
  refine' (?f : ∀ b : Arguments, argsOf (top 24) = b → Arguments) _ ?h
  case h => conv => lhs; whnf
  case f => exact fun b _ => b
noncomputable def b170 : List Stmt := by
  refine' (?f : ∀ b : List Stmt, bodyOf (top 24) = b → List Stmt) _ ?h
  case h => conv => lhs; whnf
  case f => exact fun b _ => b
noncomputable def c170 : Scope := by
  refine' (?f : ∀ b : Scope, scopeOf (top 24) = b → Scope) _ ?h
  case h => conv => lhs; whnf
  case f => exact fun b _ => b
noncomputable def a177 : Arguments := by
  refine' (?f : ∀ b : Arguments, argsOf (top 25) = b → Arguments) _ ?h
  case h => conv => lhs; whnf
  case f => exact fun b _ => b
noncomputable def b177 : List Stmt := by
  refine' (?f : ∀ b : List Stmt, bodyOf (top 25) = b → List Stmt) _ ?h
  case h => conv => lhs; whnf
  case f => exact fun b _ => b
noncomputable def c177 : Scope := by
  refine' (?f : ∀ b : Scope, scopeOf (top 25) = b → Scope) _ ?h
  case h => conv => lhs; whnf
  case f => exact fun b _ => b
noncomputable def a184 : Arguments := by
  refine' (?f : ∀ b : Arguments, argsOf (top 26) = b → Arguments) _ ?h
  case h => conv => lhs; whnf
  case f => exact fun b _ => b
noncomputable def b184 : List Stmt := by
  refine' (?f : ∀ b : List Stmt, bodyOf (top 26) = b → List Stmt) _ ?h
  case h => conv => lhs; whnf
  case f => exact fun b _ => b
noncomputable def c184 : Scope := by
  refine' (?f : ∀ b : Scope, scopeOf (top 26) = b → Scope) _ ?h
  case h => conv => lhs; whnf
  case f => exact fun b _ => b
noncomputable def a191 : Arguments := by
  refine' (?f : ∀ b : Arguments, argsOf (top 27) = b → Arguments) _ ?h
  case h => conv => lhs; whnf
  case f => exact fun b _ => b
noncomputable def b191 : List Stmt := by
  refine' (?f : ∀ b : List Stmt, bodyOf (top 27) = b → List Stmt) _ ?h
  case h => conv => lhs; whnf
  case f => exact fun b _ => b
noncomputable def c191 : Scope := by
  refine' (?f : ∀ b : Scope, scopeOf (top 27) = b → Scope) _ ?h
  case h => conv => lhs; whnf
  case f => exact fun b _ => b
noncomputable def a198 : Arguments := by
  refine' (?f : ∀ b : Arguments, argsOf (top 29) = b → Arguments) _ ?h
  case h => conv => lhs; whnf
  case f => exact fun b _ => b
noncomputable def b198 : List Stmt := by
  refine' (?f : ∀ b : List Stmt, bodyOf (top 29) = b → List Stmt) _ ?h
  case h => conv => lhs; whnf
  case f => exact fun b _ => b
noncomputable def c198 : Scope := by
  refine' (?f : ∀ b : Scope, scopeOf (top 29) = b → Scope) _ ?h
  case h => conv => lhs; whnf
  case f => exact fun b _ => b
noncomputable def a203 : Arguments := by
  refine' (?f : ∀ b : Arguments, argsOf (top 30) = b → Arguments) _ ?h
  case h => conv => lhs; whnf
  case f => exact fun b _ => b
noncomputable def b203 : List Stmt := by
  refine' (?f : ∀ b : List Stmt, bodyOf (top 30) = b → List Stmt) _ ?h
  case h => conv => lhs; whnf
  case f => exact fun b _ => b
noncomputable def c203 : Scope := by
  refine' (?f : ∀ b : Scope, scopeOf (top 30) = b → Scope) _ ?h
  case h => conv => lhs; whnf
  case f => exact fun b _ => b
noncomputable def a208 : Arguments := by
  refine' (?f : ∀ b : Arguments, argsOf (top 31) = b → Arguments) _ ?h
  case h => conv => lhs; whnf
  case f => exact fun b _ => b
noncomputable def b208 : List Stmt := by
  refine' (?f : ∀ b : List Stmt, bodyOf (top 31) = b → List Stmt) _ ?h
  case h => conv => lhs; whnf
  case f => exact fun b _ => b
noncomputable def c208 : Scope := by
  refine' (?f : ∀ b : Scope, scopeOf (top 31) = b → Scope) _ ?h
  case h => conv => lhs; whnf
  case f => exact fun b _ => b
noncomputable def a213 : Arguments := by
  refine' (?f : ∀ b : Arguments, argsOf (top 32) = b → Arguments) _ ?h
  case h => conv => lhs; whnf
  case f => exact fun b _ => b
noncomputable def b213 : List Stmt := by
  refine' (?f : ∀ b : List Stmt, bodyOf (top 32) = b → List Stmt) _ ?h
  case h => conv => lhs; whnf
  case f => exact fun b _ => b
noncomputable def c213 : Scope := by
  refine' (?f : ∀ b : Scope, scopeOf (top 32) = b → Scope) _ ?h
  case h => conv => lhs; whnf
  case f => exact fun b _ => b
noncomputable def a220 : Arguments := by
  refine' (?f : ∀ b : Arguments, argsOf (top 33) = b → Arguments) _ ?h
  case h => conv => lhs; whnf
  case f => exact fun b _ => b
noncomputable def b220 : List Stmt := by
  refine' (?f : ∀ b : List Stmt, bodyOf (top 33) = b → List Stmt) _ ?h
  case h => conv => lhs; whnf
  case f => exact fun b _ => b
noncomputable def c220 : Scope := by
  refine' (?f : ∀ b : Scope, scopeOf (top 33) = b → Scope) _ ?h
  case h => conv => lhs; whnf
  case f => exact fun b _ => b
noncomputable def a225 : Arguments := by
  refine' (?f : ∀ b : Arguments, argsOf (top 34) = b → Arguments) _ ?h
  case h => conv => lhs; whnf
  case f => exact fun b _ => b
noncomputable def b225 : List Stmt := by
  refine' (?f : ∀ b : List Stmt, bodyOf (top 34) = b → List Stmt) _ ?h
  case h => conv => lhs; whnf
  case f => exact fun b _ => b
noncomputable def c225 : Scope := by
  refine' (?f : ∀ b : Scope, scopeOf (top 34) = b → Scope) _ ?h
  case h => conv => lhs; whnf
  case f => exact fun b _ => b
noncomputable def a230 : Arguments := by
  refine' (?f : ∀ b : Arguments, argsOf (top 35) = b → Arguments) _ ?h
  case h => conv => lhs; whnf
  case f => exact fun b _ => b
noncomputable def b230 : List Stmt := by
  refine' (?f : ∀ b : List Stmt, bodyOf (top 35) = b → List Stmt) _ ?h
  case h => conv => lhs; whnf
  case f => exact fun b _ => b
noncomputable def c230 : Scope := by
  refine' (?f : ∀ b : Scope, scopeOf (top 35) = b → Scope) _ ?h
  case h => conv => lhs; whnf
  case f => exact fun b _ => b
noncomputable def a237 : Arguments := by
  refine' (?f : ∀ b : Arguments, argsOf (top 36) = b → Arguments) _ ?h
  case h => conv => lhs; whnf
  case f => exact fun b _ => b
noncomputable def b237 : List Stmt := by
  refine' (?f : ∀ b : List Stmt, bodyOf (top 36) = b → List Stmt) _ ?h
  case h => conv => lhs; whnf
  case f => exact fun b _ => b
noncomputable def c237 : Scope := by
  refine' (?f : ∀ b : Scope, scopeOf (top 36) = b → Scope) _ ?h
  case h => conv => lhs; whnf
  case f => exact fun b _ => b
noncomputable def a244 : Arguments := by
  refine' (?f : ∀ b : Arguments, argsOf (top 37) = b → Arguments) _ ?h
  case h => conv => lhs; whnf
  case f => exact fun b _ => b
noncomputable def b244 : List Stmt := by
  refine' (?f : ∀ b : List Stmt, bodyOf (top 37) = b → List Stmt) _ ?h
  case h => conv => lhs; whnf
  case f => exact fun b _ => b
noncomputable def c244 : Scope := by
  refine' (?f : ∀ b : Scope, scopeOf (top 37) = b → Scope) _ ?h
  case h => conv => lhs; whnf
  case f => exact fun b _ => b
noncomputable def a249 : Arguments := by
  refine' (?f : ∀ b : Arguments, argsOf (top 38) = b → Arguments) _ ?h
  case h => conv => lhs; whnf
  case f => exact fun b _ => b
noncomputable def b249 : List Stmt := by
  refine' (?f : ∀ b : List Stmt, bodyOf (top 38) = b → List Stmt) _ ?h
  case h => conv => lhs; whnf
  case f => exact fun b _ => b
noncomputable def c249 : Scope := by
  refine' (?f : ∀ b : Scope, scopeOf (top 38) = b → Scope) _ ?h
  case h => conv => lhs; whnf
  case f => exact fun b _ => b
noncomputable def heap_39 : Params → Frag := by
  refine' (?f : ∀ b : Params → Frag, (fun P =>
  (nat_lit 2, ob .none none (PySem.Data.dict #[(de P "\x69mport.loaded._sre" 183 (.bool true)), (de P "class._frozen_\x69mportlib.BuiltinImporter" 185 (v2 14)), (de P "watched.\x69mport" 206 (v2 18)), (de P "class._frozen_\x69mportlib.ModuleSpec" 216 (v2 22)), (de P "sys.modules.booked-epoch" 245 (v3 3 0)), (de P "\x69mport.later-laid._sre" 270 (.bool true)), (de P "watched.library" 272 (v2 27)), (de P "watched.library-objects" 0 (v1 "\x0c" 0)), (de P "watched.library-deep._sre" 273 (v1 "\x04\x00\x00\x0b\x04\x00\x00\x0b\x04\x00\x00\x03\x04\x00\x00\x0b\x08\x04dict\x02" 0))] (9 : Nat)) #[]) ::
  (nat_lit 3, ob (.type "dict") none (PySem.Data.dict (List.toArray ((de P "__name__" 165 (v1 "law_in0069_01" 687)) :: (de P "__doc__" 166 .none) :: (de P "__package__" 167 .none) :: (de P "__loader__" 168 (.builtin "__main__.__loader__#opaque")) :: (de P "__spec__" 169 .none) :: (de P "__annotations__" 170 (v2 6)) :: (de P "__builtins__" 171 (v2 4)) :: (de P "__file__" 173 (v1 "/claim/cut.py" 172)) :: (de P "__cached__" 174 .none) :: (de P "_sre" 275 (v2 12)) :: (de P "_wall" 288 (v2 38)) :: (de P "read_uint1" 298 (v2 45)) :: (de P "read_string1" 307 (v2 52)) :: (de P "_twin_re_1" 345 (v2 57)) :: (de P "_special_chars_map" 493 (v2 59)) :: (de P "escape" 500 (v2 69)) :: (de P "_translate" 521 (v2 76)) :: (de P "_plain_name" 532 (v2 83)) :: (de P "ABCMeta" 558 (v2 100)) :: (de P "_ABCLike" 601 (v2 133)) :: (de P "_abc_plain_meta" 608 (v2 142)) :: (de P "fspath" 620 (v2 149)) :: (de P "_check_arg_types" 633 (v2 156)) :: (de P "_get_sep" 642 (v2 163)) :: (de P "join" 653 (v2 170)) :: (de P "splitroot" 662 (v2 177)) :: (de P "basename" 671 (v2 184)) :: (de P "normpath" 686 (v2 191)) :: (de P "_law_orders" 702 (v2 198)) :: (de P "_law_words" 708 (v2 203)) :: (de P "_law_tape" 714 (v2 208)) :: (de P "_law_read" 720 (v2 213)) :: (de P "_law_refused" 727 (v2 220)) :: (de P "_law_takes" 733 (v2 225)) :: (de P "_law_fits" 739 (v2 230)) :: (de P "_law_done" 750 (v2 237)) :: (de P "_law_walked" 762 (v2 244)) :: (de P "law" 768 (v2 249)) :: [])) (38 : Nat)) #[]) ::
  (nat_lit 32, ob (.type "tuple") none (PySem.Data.seq #[] (0 : Nat)) #[]) ::
  (nat_lit 34, ob (.type "tuple") none (PySem.Data.seq #[(v1 "k" 285)] (0 : Nat)) #[]) ::
  (nat_lit 35, ob (.type "tuple") none (PySem.Data.seq #[] (0 : Nat)) #[]) ::
  (nat_lit 37, ob (.type "code") none (PySem.Data.fields #[(v1 "_wall" 282), (v1 "_wall" 283), (v1 "/claim/cut.py" 284), (v3 2 0), (v3 1 0), (v3 0 0), (v3 0 0), (v3 3 0), (v2 32), (.bool true), (v3 276 0), (v2 33), PySem.Value.none, (v2 34), (v2 35), (v2 36), (v3 286 0), (v3 2 0), (v1 "/claim/cut.py" 287)]) #[]) ::
  (nat_lit 38, fo "_wall" "_wall" a38 b38 c38 (v1 "__main__" 164) 37) ::
  (nat_lit 39, ob (.type "tuple") none (PySem.Data.seq #[] (0 : Nat)) #[]) ::
  (nat_lit 41, ob (.type "tuple") none (PySem.Data.seq #[(v1 "f" 294), (v1 "data" 295)] (0 : Nat)) #[]) ::
  (nat_lit 42, ob (.type "tuple") none (PySem.Data.seq #[] (0 : Nat)) #[]) ::
  (nat_lit 44, ob (.type "code") none (PySem.Data.fields #[(v1 "read_uint1" 291), (v1 "read_uint1" 292), (v1 "/claim/cut.py" 293), (v3 6 0), (v3 1 0), (v3 0 0), (v3 0 0), (v3 3 0), (v2 39), (.bool true), (v3 276 0), (v2 40), PySem.Value.none, (v2 41), (v2 42), (v2 43), (v3 296 0), (v3 6 0), (v1 "/claim/cut.py" 297)]) #[]) ::
  (nat_lit 45, fo "read_uint1" "read_uint1" a45 b45 c45 (v1 "cpy313.pickletools" 289) 44) ::
  (nat_lit 46, ob (.type "tuple") none (PySem.Data.seq #[] (0 : Nat)) #[]) ::
  (nat_lit 48, ob (.type "tuple") none (PySem.Data.seq #[(v1 "f" 302), (v1 "n" 303), (v1 "data" 304)] (0 : Nat)) #[]) ::
  (nat_lit 49, ob (.type "tuple") none (PySem.Data.seq #[] (0 : Nat)) #[]) ::
  (nat_lit 51, ob (.type "code") none (PySem.Data.fields #[(v1 "read_string1" 299), (v1 "read_string1" 300), (v1 "/claim/cut.py" 301), (v3 11 0), (v3 1 0), (v3 0 0), (v3 0 0), (v3 3 0), (v2 46), (.bool true), (v3 276 0), (v2 47), PySem.Value.none, (v2 48), (v2 49), (v2 50), (v3 305 0), (v3 11 0), (v1 "/claim/cut.py" 306)]) #[]) ::
  (nat_lit 52, fo "read_string1" "read_string1" a52 b52 c52 (v1 "cpy313.pickletools" 289) 51) ::
  (nat_lit 56, ob (.type "tuple") none (PySem.Data.seq (List.toArray ((v3 14 0) :: (v3 14 0) :: (v3 4 0) :: (v3 1 0) :: (v3 1 0) :: (v3 9 0) :: (v3 0 0) :: (v3 64 0) :: (v3 0 0) :: (v3 1342177280 0) :: (v3 0 0) :: (v3 0 0) :: (v3 0 0) :: (v3 0 0) :: (v3 0 0) :: (v3 17 0) :: (v3 0 0) :: (v3 13 0) :: (v3 11 0) :: (v3 9 0) :: (v3 0 0) :: (v3 64 0) :: (v3 0 0) :: (v3 1342177280 0) :: (v3 0 0) :: (v3 0 0) :: (v3 0 0) :: (v3 0 0) :: (v3 0 0) :: (v3 17 0) :: (v3 1 0) :: (v3 1 0) :: [])) (0 : Nat)) #[]) ::
  (nat_lit 57, ob (.type "re.Pattern") none (PySem.Data.fields #[(v1 "([&~|])" 309), (v3 32 344), (v3 1 0), PySem.Value.none, PySem.Value.none, (v2 56), (v3 0 0)]) #[]) ::
  (nat_lit 59, ob (.type "dict") none (PySem.Data.dict #[(PySem.DictEntry.mk (40 : Int) (v3 40 349) (v1 "\\(" 353)), (PySem.DictEntry.mk (41 : Int) (v3 41 355) (v1 "\\)" 359)), (PySem.DictEntry.mk (91 : Int) (v3 91 361) (v1 "\\[" 365)), (PySem.DictEntry.mk (93 : Int) (v3 93 367) (v1 "\\]" 371)), (PySem.DictEntry.mk (123 : Int) (v3 123 373) (v1 "\\{" 377)), (PySem.DictEntry.mk (125 : Int) (v3 125 379) (v1 "\\}" 383)), (PySem.DictEntry.mk (63 : Int) (v3 63 385) (v1 "\\?" 389)), (PySem.DictEntry.mk (42 : Int) (v3 42 391) (v1 "\\*" 395)), (PySem.DictEntry.mk (43 : Int) (v3 43 397) (v1 "\\+" 401)), (PySem.DictEntry.mk (45 : Int) (v3 45 403) (v1 "\\-" 407)), (PySem.DictEntry.mk (124 : Int) (v3 124 409) (v1 "\\|" 413)), (PySem.DictEntry.mk (94 : Int) (v3 94 415) (v1 "\\^" 419)), (PySem.DictEntry.mk (36 : Int) (v3 36 421) (v1 "\\$" 425)), (PySem.DictEntry.mk (92 : Int) (v3 92 427) (v1 "\\\\" 431)), (PySem.DictEntry.mk (46 : Int) (v3 46 433) (v1 "\\." 437)), (PySem.DictEntry.mk (38 : Int) (v3 38 439) (v1 "\\&" 443)), (PySem.DictEntry.mk (126 : Int) (v3 126 445) (v1 "\\~" 449)), (PySem.DictEntry.mk (35 : Int) (v3 35 451) (v1 "\\#" 455)), (PySem.DictEntry.mk (32 : Int) (v3 32 457) (v1 "\\ " 461)), (PySem.DictEntry.mk (9 : Int) (v3 9 463) (v1 "\\\t" 467)), (PySem.DictEntry.mk (10 : Int) (v3 10 469) (v1 "\\\n" 473)), (PySem.DictEntry.mk (13 : Int) (v3 13 475) (v1 "\\\x0d" 479)), (PySem.DictEntry.mk (11 : Int) (v3 11 481) (v1 "\\\x0b" 485)), (PySem.DictEntry.mk (12 : Int) (v3 12 487) (v1 "\\\x0c" 491))] (24 : Nat)) #[]) ::
  (nat_lit 63, ob (.type "tuple") none (PySem.Data.seq #[] (0 : Nat)) #[]) ::
  (nat_lit 65, ob (.type "tuple") none (PySem.Data.seq #[(v1 "pattern" 497)] (0 : Nat)) #[]) ::
  (nat_lit 66, ob (.type "tuple") none (PySem.Data.seq #[] (0 : Nat)) #[]) ::
  (nat_lit 68, ob (.type "code") none (PySem.Data.fields #[(v1 "escape" 494), (v1 "escape" 495), (v1 "/claim/cut.py" 496), (v3 21 0), (v3 1 0), (v3 0 0), (v3 0 0), (v3 3 0), (v2 63), (.bool true), (v3 276 0), (v2 64), PySem.Value.none, (v2 65), (v2 66), (v2 67), (v3 498 0), (v3 21 0), (v1 "/claim/cut.py" 499)]) #[]) ::
  (nat_lit 69, fo "escape" "escape" a69 b69 c69 (v1 "re" 346) 68) ::
  (nat_lit 70, ob (.type "tuple") none (PySem.Data.seq #[] (0 : Nat)) #[]) ::
  (nat_lit 72, ob (.type "tuple") none (PySem.Data.seq #[(v1 "pat" 506), (v1 "STAR" 507), (v1 "QUESTION_MARK" 508), (v1 "res" 509), (v1 "add" 510), (v1 "i" 511), (v1 "n" 512), (v1 "c" 513), (v1 "j" 514), (v1 "stuff" 515), (v1 "chunks" 516), (v1 "k" 517), (v1 "chunk" 518)] (0 : Nat)) #[]) ::
  (nat_lit 73, ob (.type "tuple") none (PySem.Data.seq #[] (0 : Nat)) #[]) ::
  (nat_lit 75, ob (.type "code") none (PySem.Data.fields #[(v1 "_translate" 503), (v1 "_translate" 504), (v1 "/claim/cut.py" 505), (v3 28 0), (v3 3 0), (v3 0 0), (v3 0 0), (v3 3 0), (v2 70), (.bool true), (v3 276 0), (v2 71), PySem.Value.none, (v2 72), (v2 73), (v2 74), (v3 519 0), (v3 28 0), (v1 "/claim/cut.py" 520)]) #[]) ::
  (nat_lit 76, fo "_translate" "_translate" a76 b76 c76 (v1 "cpy313.fnmatch" 501) 75) ::
  (nat_lit 77, ob (.type "tuple") none (PySem.Data.seq #[] (0 : Nat)) #[]) ::
  (nat_lit 79, ob (.type "tuple") none (PySem.Data.seq #[(v1 "x" 527), (v1 "what" 528), (v1 "kind" 529)] (0 : Nat)) #[]) ::
  (nat_lit 80, ob (.type "tuple") none (PySem.Data.seq #[] (0 : Nat)) #[]) ::
  (nat_lit 82, ob (.type "code") none (PySem.Data.fields #[(v1 "_plain_name" 524), (v1 "_plain_name" 525), (v1 "/claim/cut.py" 526), (v3 91 0), (v3 2 0), (v3 0 0), (v3 0 0), (v3 3 0), (v2 77), (.bool true), (v3 276 0), (v2 78), PySem.Value.none, (v2 79), (v2 80), (v2 81), (v3 530 0), (v3 91 0), (v1 "/claim/cut.py" 531)]) #[]) ::
  (nat_lit 83, fo "_plain_name" "_plain_name" a83 b83 c83 (v1 "os" 522) 82) ::
  (nat_lit 84, ob (.type "tuple") none (PySem.Data.seq #[(.type "type")] (0 : Nat)) #[]) ::
  (nat_lit 91, ob (.type "tuple") none (PySem.Data.seq #[] (0 : Nat)) #[]) ::
  (nat_lit 93, ob (.type "tuple") none (PySem.Data.seq #[(v1 "cls" 550), (v1 "subclass" 551)] (0 : Nat)) #[]) ::
  (nat_lit 94, ob (.type "tuple") none (PySem.Data.seq #[] (0 : Nat)) #[]) ::
  (nat_lit 96, ob (.type "code") none (PySem.Data.fields #[(v1 "register" 547), (v1 "ABCMeta.register" 548), (v1 "/claim/cut.py" 549), (v3 99 0), (v3 2 0), (v3 0 0), (v3 0 0), (v3 3 0), (v2 91), (.bool true), (v3 276 0), (v2 92), PySem.Value.none, (v2 93), (v2 94), (v2 95), (v3 552 0), (v3 99 0), (v1 "/claim/cut.py" 553)]) #[]) ::
  (nat_lit 97, fo "register" "ABCMeta.register" a97 b97 c97 (v1 "abc" 533) 96) ::
  (nat_lit 98, ob (.type "tuple") none (PySem.Data.seq #[] (0 : Nat)) #[]) ::
  (nat_lit 99, ob (.type "dict") none (PySem.Data.dict #[(de P "__module__" 542 (v1 "abc" 533)), (de P "__firstlineno__" 546 (v3 97 545)), (de P "register" 554 (v2 97)), (de P "__static_attributes__" 555 (v2 98)), (de P "__doc__" 556 .none)] (2 : Nat)) #[]) ::
  (nat_lit 100, ob (.type "type") none (PySem.Data.cls (PySem.ClassData.mk (Str.ofString "ABCMeta") [(.type "type")] [(v2 100), (.type "type"), (.type "object")] (99 : Nat) (Str.ofString "ABCMeta") Bool.true [] [(v2 133)] Bool.false none Bool.false)) #[(some (v2 84)), none, (some (v1 "ABCMeta" 535)), (some (v1 "ABCMeta" 543)), (some (.builtin "type.__new__")), (some (.bool true))]) ::
  (nat_lit 103, ob (.type "tuple") none (PySem.Data.seq #[(v2 100)] (0 : Nat)) #[]) ::
  (nat_lit 110, ob (.type "tuple") none (PySem.Data.seq #[] (0 : Nat)) #[]) ::
  (nat_lit 112, ob (.type "tuple") none (PySem.Data.seq #[(v1 "cls" 576), (v1 "instance" 577), (v1 "C" 578)] (0 : Nat)) #[]) ::
  (nat_lit 113, ob (.type "tuple") none (PySem.Data.seq #[] (0 : Nat)) #[]) ::
  (nat_lit 115, ob (.type "code") none (PySem.Data.fields #[(v1 "__instancecheck__" 573), (v1 "_ABCLike.__instancecheck__" 574), (v1 "/claim/cut.py" 575), (v3 104 0), (v3 2 0), (v3 0 0), (v3 0 0), (v3 3 0), (v2 110), (.bool true), (v3 276 0), (v2 111), PySem.Value.none, (v2 112), (v2 113), (v2 114), (v3 579 0), (v3 104 0), (v1 "/claim/cut.py" 580)]) #[]) ::
  (nat_lit 116, fo "__instancecheck__" "_ABCLike.__instancecheck__" a116 b116 c116 (v1 "collections.abc" 559) 115) ::
  (nat_lit 117, ob (.type "tuple") none (PySem.Data.seq #[] (0 : Nat)) #[]) ::
  (nat_lit 119, ob (.type "tuple") none (PySem.Data.seq #[(v1 "cls" 585), (v1 "C" 586)] (0 : Nat)) #[]) ::
  (nat_lit 120, ob (.type "tuple") none (PySem.Data.seq #[] (0 : Nat)) #[]) ::
  (nat_lit 122, ob (.type "code") none (PySem.Data.fields #[(v1 "__subclasscheck__" 582), (v1 "_ABCLike.__subclasscheck__" 583), (v1 "/claim/cut.py" 584), (v3 110 0), (v3 2 0), (v3 0 0), (v3 0 0), (v3 3 0), (v2 117), (.bool true), (v3 276 0), (v2 118), PySem.Value.none, (v2 119), (v2 120), (v2 121), (v3 587 0), (v3 110 0), (v1 "/claim/cut.py" 588)]) #[]) ::
  (nat_lit 123, fo "__subclasscheck__" "_ABCLike.__subclasscheck__" a123 b123 c123 (v1 "collections.abc" 559) 122) ::
  (nat_lit 124, ob (.type "tuple") none (PySem.Data.seq #[] (0 : Nat)) #[]) ::
  (nat_lit 126, ob (.type "tuple") none (PySem.Data.seq #[(v1 "cls" 593), (v1 "subclass" 594)] (0 : Nat)) #[]) ::
  (nat_lit 127, ob (.type "tuple") none (PySem.Data.seq #[] (0 : Nat)) #[]) ::
  (nat_lit 129, ob (.type "code") none (PySem.Data.fields #[(v1 "register" 590), (v1 "_ABCLike.register" 591), (v1 "/claim/cut.py" 592), (v3 115 0), (v3 2 0), (v3 0 0), (v3 0 0), (v3 3 0), (v2 124), (.bool true), (v3 276 0), (v2 125), PySem.Value.none, (v2 126), (v2 127), (v2 128), (v3 595 0), (v3 115 0), (v1 "/claim/cut.py" 596)]) #[]) ::
  (nat_lit 130, fo "register" "_ABCLike.register" a130 b130 c130 (v1 "collections.abc" 559) 129) ::
  (nat_lit 131, ob (.type "tuple") none (PySem.Data.seq #[] (0 : Nat)) #[]) ::
  (nat_lit 132, ob (.type "dict") none (PySem.Data.dict #[(de P "__module__" 568 (v1 "collections.abc" 559)), (de P "__firstlineno__" 572 (v3 102 571)), (de P "__instancecheck__" 581 (v2 116)), (de P "__subclasscheck__" 589 (v2 123)), (de P "register" 597 (v2 130)), (de P "__static_attributes__" 598 (v2 131)), (de P "__doc__" 599 .none)] (2 : Nat)) #[]) ::
  (nat_lit 133, ob (.type "type") none (PySem.Data.cls (PySem.ClassData.mk (Str.ofString "_ABCLike") [(v2 100)] [(v2 133), (v2 100), (.type "type"), (.type "object")] (132 : Nat) (Str.ofString "_ABCLike") Bool.true [] [] Bool.false none Bool.false)) #[(some (v2 103)), none, (some (v1 "_ABCLike" 561)), (some (v1 "_ABCLike" 569)), (some (.builtin "type.__new__")), (some (.bool true))]) ::
  (nat_lit 136, ob (.type "tuple") none (PySem.Data.seq #[] (0 : Nat)) #[]) ::
  (nat_lit 138, ob (.type "tuple") none (PySem.Data.seq #[(v1 "C" 605)] (0 : Nat)) #[]) ::
  (nat_lit 139, ob (.type "tuple") none (PySem.Data.seq #[] (0 : Nat)) #[]) ::
  (nat_lit 141, ob (.type "code") none (PySem.Data.fields #[(v1 "_abc_plain_meta" 602), (v1 "_abc_plain_meta" 603), (v1 "/claim/cut.py" 604), (v3 117 0), (v3 1 0), (v3 0 0), (v3 0 0), (v3 3 0), (v2 136), (.bool true), (v3 276 0), (v2 137), PySem.Value.none, (v2 138), (v2 139), (v2 140), (v3 606 0), (v3 117 0), (v1 "/claim/cut.py" 607)]) #[]) ::
  (nat_lit 142, fo "_abc_plain_meta" "_abc_plain_meta" a142 b142 c142 (v1 "collections.abc" 559) 141) ::
  (nat_lit 143, ob (.type "tuple") none (PySem.Data.seq #[] (0 : Nat)) #[]) ::
  (nat_lit 145, ob (.type "tuple") none (PySem.Data.seq #[(v1 "path" 614), (v1 "kind" 615), (v1 "hook" 616), (v1 "given" 617)] (0 : Nat)) #[]) ::
  (nat_lit 146, ob (.type "tuple") none (PySem.Data.seq #[] (0 : Nat)) #[]) ::
  (nat_lit 148, ob (.type "code") none (PySem.Data.fields #[(v1 "fspath" 611), (v1 "fspath" 612), (v1 "/claim/cut.py" 613), (v3 121 0), (v3 1 0), (v3 0 0), (v3 0 0), (v3 3 0), (v2 143), (.bool true), (v3 276 0), (v2 144), PySem.Value.none, (v2 145), (v2 146), (v2 147), (v3 618 0), (v3 121 0), (v1 "/claim/cut.py" 619)]) #[]) ::
  (nat_lit 149, fo "fspath" "fspath" a149 b149 c149 (v1 "os" 609) 148) ::
  (nat_lit 150, ob (.type "tuple") none (PySem.Data.seq #[] (0 : Nat)) #[]) ::
  (nat_lit 152, ob (.type "tuple") none (PySem.Data.seq #[(v1 "funcname" 626), (v1 "args" 627), (v1 "hasstr" 628), (v1 "hasbytes" 629), (v1 "s" 630)] (0 : Nat)) #[]) ::
  (nat_lit 153, ob (.type "tuple") none (PySem.Data.seq #[] (0 : Nat)) #[]) ::
  (nat_lit 155, ob (.type "code") none (PySem.Data.fields #[(v1 "_check_arg_types" 623), (v1 "_check_arg_types" 624), (v1 "/claim/cut.py" 625), (v3 138 0), (v3 1 0), (v3 0 0), (v3 0 0), (v3 7 0), (v2 150), (.bool true), (v3 276 0), (v2 151), PySem.Value.none, (v2 152), (v2 153), (v2 154), (v3 631 0), (v3 138 0), (v1 "/claim/cut.py" 632)]) #[]) ::
  (nat_lit 156, fo "_check_arg_types" "_check_arg_types" a156 b156 c156 (v1 "cpy313.genericpath" 621) 155) ::
  (nat_lit 157, ob (.type "tuple") none (PySem.Data.seq #[] (0 : Nat)) #[]) ::
  (nat_lit 159, ob (.type "tuple") none (PySem.Data.seq #[(v1 "path" 639)] (0 : Nat)) #[]) ::
  (nat_lit 160, ob (.type "tuple") none (PySem.Data.seq #[] (0 : Nat)) #[]) ::
  (nat_lit 162, ob (.type "code") none (PySem.Data.fields #[(v1 "_get_sep" 636), (v1 "_get_sep" 637), (v1 "/claim/cut.py" 638), (v3 150 0), (v3 1 0), (v3 0 0), (v3 0 0), (v3 3 0), (v2 157), (.bool true), (v3 276 0), (v2 158), PySem.Value.none, (v2 159), (v2 160), (v2 161), (v3 640 0), (v3 150 0), (v1 "/claim/cut.py" 641)]) #[]) ::
  (nat_lit 163, fo "_get_sep" "_get_sep" a163 b163 c163 (v1 "cpy313.posixpath" 634) 162) ::
  (nat_lit 164, ob (.type "tuple") none (PySem.Data.seq #[] (0 : Nat)) #[]) ::
  (nat_lit 166, ob (.type "tuple") none (PySem.Data.seq #[(v1 "a" 646), (v1 "p" 647), (v1 "sep" 648), (v1 "path" 649), (v1 "b" 650)] (0 : Nat)) #[]) ::
  (nat_lit 167, ob (.type "tuple") none (PySem.Data.seq #[] (0 : Nat)) #[]) ::
  (nat_lit 169, ob (.type "code") none (PySem.Data.fields #[(v1 "join" 643), (v1 "join" 644), (v1 "/claim/cut.py" 645), (v3 155 0), (v3 1 0), (v3 0 0), (v3 0 0), (v3 7 0), (v2 164), (.bool true), (v3 276 0), (v2 165), PySem.Value.none, (v2 166), (v2 167), (v2 168), (v3 651 0), (v3 155 0), (v1 "/claim/cut.py" 652)]) #[]) ::
  (nat_lit 170, fo "join" "join" a170 b170 c170 (v1 "cpy313.posixpath" 634) 169) ::
  (nat_lit 171, ob (.type "tuple") none (PySem.Data.seq #[] (0 : Nat)) #[]) ::
  (nat_lit 173, ob (.type "tuple") none (PySem.Data.seq #[(v1 "p" 657), (v1 "sep" 658), (v1 "empty" 659)] (0 : Nat)) #[]) ::
  (nat_lit 174, ob (.type "tuple") none (PySem.Data.seq #[] (0 : Nat)) #[]) ::
  (nat_lit 176, ob (.type "code") none (PySem.Data.fields #[(v1 "splitroot" 654), (v1 "splitroot" 655), (v1 "/claim/cut.py" 656), (v3 172 0), (v3 1 0), (v3 0 0), (v3 0 0), (v3 3 0), (v2 171), (.bool true), (v3 276 0), (v2 172), PySem.Value.none, (v2 173), (v2 174), (v2 175), (v3 660 0), (v3 172 0), (v1 "/claim/cut.py" 661)]) #[]) ::
  (nat_lit 177, fo "splitroot" "splitroot" a177 b177 c177 (v1 "cpy313.posixpath" 634) 176) ::
  (nat_lit 178, ob (.type "tuple") none (PySem.Data.seq #[] (0 : Nat)) #[]) ::
  (nat_lit 180, ob (.type "tuple") none (PySem.Data.seq #[(v1 "p" 666), (v1 "sep" 667), (v1 "i" 668)] (0 : Nat)) #[]) ::
  (nat_lit 181, ob (.type "tuple") none (PySem.Data.seq #[] (0 : Nat)) #[]) ::
  (nat_lit 183, ob (.type "code") none (PySem.Data.fields #[(v1 "basename" 663), (v1 "basename" 664), (v1 "/claim/cut.py" 665), (v3 186 0), (v3 1 0), (v3 0 0), (v3 0 0), (v3 3 0), (v2 178), (.bool true), (v3 276 0), (v2 179), PySem.Value.none, (v2 180), (v2 181), (v2 182), (v3 669 0), (v3 186 0), (v1 "/claim/cut.py" 670)]) #[]) ::
  (nat_lit 184, fo "basename" "basename" a184 b184 c184 (v1 "cpy313.posixpath" 634) 183) ::
  (nat_lit 185, ob (.type "tuple") none (PySem.Data.seq #[] (0 : Nat)) #[]) ::
  (nat_lit 187, ob (.type "tuple") none (PySem.Data.seq #[(v1 "path" 675), (v1 "sep" 676), (v1 "dot" 677), (v1 "dotdot" 678), (v1 "_" 679), (v1 "initial_slashes" 680), (v1 "comps" 681), (v1 "new_comps" 682), (v1 "comp" 683)] (0 : Nat)) #[]) ::
  (nat_lit 188, ob (.type "tuple") none (PySem.Data.seq #[] (0 : Nat)) #[]) ::
  (nat_lit 190, ob (.type "code") none (PySem.Data.fields #[(v1 "normpath" 672), (v1 "normpath" 673), (v1 "/claim/cut.py" 674), (v3 191 0), (v3 1 0), (v3 0 0), (v3 0 0), (v3 3 0), (v2 185), (.bool true), (v3 276 0), (v2 186), PySem.Value.none, (v2 187), (v2 188), (v2 189), (v3 684 0), (v3 191 0), (v1 "/claim/cut.py" 685)]) #[]) ::
  (nat_lit 191, fo "normpath" "normpath" a191 b191 c191 (v1 "cpy313.posixpath" 634) 190) ::
  (nat_lit 192, ob (.type "tuple") none (PySem.Data.seq #[] (0 : Nat)) #[]) ::
  (nat_lit 194, ob (.type "tuple") none (PySem.Data.seq #[(v1 "numbers" 692), (v1 "parts" 693), (v1 "pieces" 694), (v1 "orders" 695), (v1 "x" 696), (v1 "half" 697), (v1 "left" 698), (v1 "row" 699)] (0 : Nat)) #[]) ::
  (nat_lit 195, ob (.type "tuple") none (PySem.Data.seq #[] (0 : Nat)) #[]) ::
  (nat_lit 197, ob (.type "code") none (PySem.Data.fields #[(v1 "_law_orders" 689), (v1 "_law_orders" 690), (v1 "/claim/cut.py" 691), (v3 217 0), (v3 1 0), (v3 0 0), (v3 0 0), (v3 3 0), (v2 192), (.bool true), (v3 276 0), (v2 193), PySem.Value.none, (v2 194), (v2 195), (v2 196), (v3 700 0), (v3 217 0), (v1 "/claim/cut.py" 701)]) #[]) ::
  (nat_lit 198, fo "_law_orders" "_law_orders" a198 b198 c198 (v1 "law_in0069_01" 687) 197) ::
  (nat_lit 199, ob (.type "tuple") none (PySem.Data.seq #[] (0 : Nat)) #[]) ::
  (nat_lit 202, ob (.type "code") none (PySem.Data.fields #[(v1 "_law_words" 703), (v1 "_law_words" 704), (v1 "/claim/cut.py" 705), (v3 232 0), (v3 1 0), (v3 0 0), (v3 0 0), (v3 3 0), (v2 199), (.bool true), (v3 276 0), (v2 200), PySem.Value.none, PySem.Value.none, PySem.Value.none, (v2 201), (v3 706 0), (v3 232 0), (v1 "/claim/cut.py" 707)]) #[]) ::
  (nat_lit 203, fo "_law_words" "_law_words" a203 b203 c203 (v1 "law_in0069_01" 687) 202) ::
  (nat_lit 204, ob (.type "tuple") none (PySem.Data.seq #[] (0 : Nat)) #[]) ::
  (nat_lit 207, ob (.type "code") none (PySem.Data.fields #[(v1 "_law_tape" 709), (v1 "_law_tape" 710), (v1 "/claim/cut.py" 711), (v3 234 0), (v3 1 0), (v3 0 0), (v3 0 0), (v3 3 0), (v2 204), (.bool true), (v3 276 0), (v2 205), PySem.Value.none, PySem.Value.none, PySem.Value.none, (v2 206), (v3 712 0), (v3 234 0), (v1 "/claim/cut.py" 713)]) #[]) ::
  (nat_lit 208, fo "_law_tape" "_law_tape" a208 b208 c208 (v1 "law_in0069_01" 687) 207) ::
  (nat_lit 209, ob (.type "tuple") none (PySem.Data.seq #[] (0 : Nat)) #[]) ::
  (nat_lit 212, ob (.type "code") none (PySem.Data.fields #[(v1 "_law_read" 715), (v1 "_law_read" 716), (v1 "/claim/cut.py" 717), (v3 239 0), (v3 1 0), (v3 0 0), (v3 0 0), (v3 3 0), (v2 209), (.bool true), (v3 276 0), (v2 210), PySem.Value.none, PySem.Value.none, PySem.Value.none, (v2 211), (v3 718 0), (v3 239 0), (v1 "/claim/cut.py" 719)]) #[]) ::
  (nat_lit 213, fo "_law_read" "_law_read" a213 b213 c213 (v1 "law_in0069_01" 687) 212) ::
  (nat_lit 214, ob (.type "tuple") none (PySem.Data.seq #[] (0 : Nat)) #[]) ::
  (nat_lit 216, ob (.type "tuple") none (PySem.Data.seq #[(v1 "octets" 724)] (0 : Nat)) #[]) ::
  (nat_lit 217, ob (.type "tuple") none (PySem.Data.seq #[] (0 : Nat)) #[]) ::
  (nat_lit 219, ob (.type "code") none (PySem.Data.fields #[(v1 "_law_refused" 721), (v1 "_law_refused" 722), (v1 "/claim/cut.py" 723), (v3 249 0), (v3 1 0), (v3 0 0), (v3 0 0), (v3 3 0), (v2 214), (.bool true), (v3 276 0), (v2 215), PySem.Value.none, (v2 216), (v2 217), (v2 218), (v3 725 0), (v3 249 0), (v1 "/claim/cut.py" 726)]) #[]) ::
  (nat_lit 220, fo "_law_refused" "_law_refused" a220 b220 c220 (v1 "law_in0069_01" 687) 219) ::
  (nat_lit 221, ob (.type "tuple") none (PySem.Data.seq #[] (0 : Nat)) #[]) ::
  (nat_lit 224, ob (.type "code") none (PySem.Data.fields #[(v1 "_law_takes" 728), (v1 "_law_takes" 729), (v1 "/claim/cut.py" 730), (v3 254 0), (v3 2 0), (v3 0 0), (v3 0 0), (v3 3 0), (v2 221), (.bool true), (v3 276 0), (v2 222), PySem.Value.none, PySem.Value.none, PySem.Value.none, (v2 223), (v3 731 0), (v3 254 0), (v1 "/claim/cut.py" 732)]) #[]) ::
  (nat_lit 225, fo "_law_takes" "_law_takes" a225 b225 c225 (v1 "law_in0069_01" 687) 224) ::
  (nat_lit 226, ob (.type "tuple") none (PySem.Data.seq #[] (0 : Nat)) #[]) ::
  (nat_lit 229, ob (.type "code") none (PySem.Data.fields #[(v1 "_law_fits" 734), (v1 "_law_fits" 735), (v1 "/claim/cut.py" 736), (v3 267 0), (v3 2 0), (v3 0 0), (v3 0 0), (v3 3 0), (v2 226), (.bool true), (v3 276 0), (v2 227), PySem.Value.none, PySem.Value.none, PySem.Value.none, (v2 228), (v3 737 0), (v3 267 0), (v1 "/claim/cut.py" 738)]) #[]) ::
  (nat_lit 230, fo "_law_fits" "_law_fits" a230 b230 c230 (v1 "law_in0069_01" 687) 229) ::
  (nat_lit 231, ob (.type "tuple") none (PySem.Data.seq #[] (0 : Nat)) #[]) ::
  (nat_lit 233, ob (.type "tuple") none (PySem.Data.seq #[(v1 "words" 743), (v1 "here" 744), (v1 "told" 745), (v1 "kind" 746), (v1 "word" 747)] (0 : Nat)) #[]) ::
  (nat_lit 234, ob (.type "tuple") none (PySem.Data.seq #[] (0 : Nat)) #[]) ::
  (nat_lit 236, ob (.type "code") none (PySem.Data.fields #[(v1 "_law_done" 740), (v1 "_law_done" 741), (v1 "/claim/cut.py" 742), (v3 276 0), (v3 1 0), (v3 0 0), (v3 0 0), (v3 3 0), (v2 231), (.bool true), (v3 276 0), (v2 232), PySem.Value.none, (v2 233), (v2 234), (v2 235), (v3 748 0), (v3 276 0), (v1 "/claim/cut.py" 749)]) #[]) ::
  (nat_lit 237, fo "_law_done" "_law_done" a237 b237 c237 (v1 "law_in0069_01" 687) 236) ::
  (nat_lit 238, ob (.type "tuple") none (PySem.Data.seq #[] (0 : Nat)) #[]) ::
  (nat_lit 240, ob (.type "tuple") none (PySem.Data.seq #[(v1 "orders" 754), (v1 "here" 755), (v1 "told" 756), (v1 "kind" 757), (v1 "row" 758), (v1 "part" 759)] (0 : Nat)) #[]) ::
  (nat_lit 241, ob (.type "tuple") none (PySem.Data.seq #[] (0 : Nat)) #[]) ::
  (nat_lit 243, ob (.type "code") none (PySem.Data.fields #[(v1 "_law_walked" 751), (v1 "_law_walked" 752), (v1 "/claim/cut.py" 753), (v3 286 0), (v3 1 0), (v3 0 0), (v3 0 0), (v3 3 0), (v2 238), (.bool true), (v3 276 0), (v2 239), PySem.Value.none, (v2 240), (v2 241), (v2 242), (v3 760 0), (v3 286 0), (v1 "/claim/cut.py" 761)]) #[]) ::
  (nat_lit 244, fo "_law_walked" "_law_walked" a244 b244 c244 (v1 "law_in0069_01" 687) 243) ::
  (nat_lit 245, ob (.type "tuple") none (PySem.Data.seq #[] (0 : Nat)) #[]) ::
  (nat_lit 248, ob (.type "code") none (PySem.Data.fields #[(v1 "law" 763), (v1 "law" 764), (v1 "/claim/cut.py" 765), (v3 302 0), (v3 1 0), (v3 0 0), (v3 0 0), (v3 3 0), (v2 245), (.bool true), (v3 276 0), (v2 246), PySem.Value.none, PySem.Value.none, PySem.Value.none, (v2 247), (v3 766 0), (v3 302 0), (v1 "/claim/cut.py" 767)]) #[]) ::
  (nat_lit 249, fo "law" "law" a249 b249 c249 (v1 "law_in0069_01" 687) 248) :: []) = b → (Params → Frag)) _ ?h
  case h => delta v1 v2 v3 de ob fo a38 b38 c38 a45 b45 c45 a52 b52 c52 a69 b69 c69 a76 b76 c76 a83 b83 c83 a97 b97 c97 a116 b116 c116 a123 b123 c123 a130 b130 c130 a142 b142 c142 a149 b149 c149 a156 b156 c156 a163 b163 c163 a170 b170 c170 a177 b177 c177 a184 b184 c184 a191 b191 c191 a198 b198 c198 a203 b203 c203 a208 b208 c208 a213 b213 c213 a220 b220 c220 a225 b225 c225 a230 b230 c230 a237 b237 c237 a244 b244 c244 a249 b249 c249; exact rfl
  case f => exact fun b _ => b
noncomputable def view_39 : Program := by
  refine' (?f : ∀ b : Program, ({ main := { body := [s0, s1, s3, s4, s5, s7, s8, s10, s12, s14, s16, s17, s19, s21, s23, s24, s25, s26, s27, s29, s30, s31, s32, s33, s34, s35, s36, s37, s38], scope := PW.main.scope, futureAnnotations := PW.main.futureAnnotations, file := PW.main.file, more := PW.main.more }, modules := PW.modules, parses := PW.parses, absent := PW.absent, harvested := PW.harvested, given := PW.given } : Program) = b → Program) _ ?h
  case h => delta PW s0 s1 s3 s4 s5 s7 s8 s10 s12 s14 s16 s17 s19 s21 s23 s24 s25 s26 s27 s29 s30 s31 s32 s33 s34 s35 s36 s37 s38; exact rfl
  case f => exact fun b _ => b
end hd
theorem hide {P : Prop} (h : ∀ G : Prop, (P → G) → G) : P := h P id

abbrev R0 : OpenRow := PySem.Challenge.rw_in0069_01.row
namespace hd
set_option maxHeartbeats 8000000 in
noncomputable def pwS : Program := by
  refine' (?f : ∀ b : Program, PySem.Challenge.pw_in0069_01 = b → Program) _ ?h
  case h => delta PySem.Challenge.pw_in0069_01; str_meet; exact rfl
  case f => exact fun b _ => b
theorem pwS_eq : PySem.Challenge.pw_in0069_01 = pwS := by kernel_rfl
set_option maxHeartbeats 8000000 in
noncomputable def viewS : Program := by
  refine' (?f : ∀ b : Program, view_39 = b → Program) _ ?h
  case h => delta view_39; str_meet; exact rfl
  case f => exact fun b _ => b
theorem viewS_eq : view_39 = viewS := by kernel_rfl
set_option maxHeartbeats 8000000 in
noncomputable def heapS : Params → Frag := by
  refine' (?f : ∀ b : Params → Frag, heap_39 = b → Params → Frag) _ ?h
  case h => delta heap_39; str_meet; exact rfl
  case f => exact fun b _ => b
theorem heapS_eq : heap_39 = heapS := by kernel_rfl
end hd
abbrev PW : Program := PySem.Challenge.pw_in0069_01
theorem k1_39 : sreFenced PySem.Challenge.pw_in0069_01.main = true := by rewrite [hd.pwS_eq]; kernel_rfl
theorem k2_39 : ((moduleNames PySem.Challenge.pw_in0069_01.main.body).isEmpty || lookedIntoSs (moduleNames PySem.Challenge.pw_in0069_01.main.body) PySem.Challenge.pw_in0069_01.main.body) = true := by rewrite [hd.pwS_eq]; kernel_rfl
theorem k3_39 : namesResolve PySem.Challenge.pw_in0069_01 = true := by rewrite [hd.pwS_eq]; kernel_rfl
theorem k4_39 : PySem.Challenge.pw_in0069_01.boundNames.all (fun n => !worldNames.contains n) = true := by rewrite [hd.pwS_eq]; kernel_rfl
theorem k5_39 : noRoadLSs { strict := !(importedModules PySem.Challenge.pw_in0069_01.main.body).all cThrough.contains, foot := none, bare := (["vars", "dir", "locals"] : List Str).filter (readsOut PySem.Challenge.pw_in0069_01 PySem.Challenge.pw_in0069_01.main.body) } PySem.Challenge.pw_in0069_01.main.body = true := by rewrite [hd.pwS_eq]; kernel_rfl
theorem k6_39 : (namesMeet PySem.Challenge.pw_in0069_01 PySem.Challenge.pw_in0069_01.main.body fun _ n => attrL n) = true := by rewrite [hd.pwS_eq]; kernel_rfl
theorem k7_39 : looksOpen R0.prog = true := look_both (look_both (look_both (look_both (look_both k1_39 k2_39) k3_39) k4_39) k5_39) k6_39
theorem k8_39 : R0.partSaid = true := by
  delta OpenRow.partSaid
  refine look_both (look_both (look_both (look_both (look_both (look_both (look_both (look_both (look_both (look_both (look_both (look_both (look_both k7_39 ?_) ?_) ?_) ?_) ?_) ?_) ?_) ?_) ?_) ?_) ?_) ?_) ?_
  all_goals kernel_rfl
theorem k9_39 : R0.wellSaid = true := by
  delta OpenRow.wellSaid
  refine look_both (look_both k8_39 ?_) ?_
  all_goals kernel_rfl
theorem look39 : PySem.Challenge.rw_in0069_01.wellSaid = true := by
  delta OpenLaw.wellSaid
  refine look_both (look_both (look_both (look_both (look_both (look_both (look_both (look_both (look_both (look_both (look_both (look_both (look_both (look_both (look_both (look_both (look_both (look_both k9_39 ?_) ?_) ?_) ?_) ?_) ?_) ?_) ?_) ?_) ?_) ?_) ?_) ?_) ?_) ?_) ?_) ?_) ?_
  all_goals kernel_rfl
noncomputable def as39 : List Nat := (nat_lit 2) :: (nat_lit 3) :: (nat_lit 32) :: (nat_lit 34) :: (nat_lit 35) :: (nat_lit 37) :: (nat_lit 38) :: (nat_lit 39) :: (nat_lit 41) :: (nat_lit 42) :: (nat_lit 44) :: (nat_lit 45) :: (nat_lit 46) :: (nat_lit 48) :: (nat_lit 49) :: (nat_lit 51) :: (nat_lit 52) :: (nat_lit 56) :: (nat_lit 57) :: (nat_lit 59) :: (nat_lit 63) :: (nat_lit 65) :: (nat_lit 66) :: (nat_lit 68) :: (nat_lit 69) :: (nat_lit 70) :: (nat_lit 72) :: (nat_lit 73) :: (nat_lit 75) :: (nat_lit 76) :: (nat_lit 77) :: (nat_lit 79) :: (nat_lit 80) :: (nat_lit 82) :: (nat_lit 83) :: (nat_lit 84) :: (nat_lit 91) :: (nat_lit 93) :: (nat_lit 94) :: (nat_lit 96) :: (nat_lit 97) :: (nat_lit 98) :: (nat_lit 99) :: (nat_lit 100) :: (nat_lit 103) :: (nat_lit 110) :: (nat_lit 112) :: (nat_lit 113) :: (nat_lit 115) :: (nat_lit 116) :: (nat_lit 117) :: (nat_lit 119) :: (nat_lit 120) :: (nat_lit 122) :: (nat_lit 123) :: (nat_lit 124) :: (nat_lit 126) :: (nat_lit 127) :: (nat_lit 129) :: (nat_lit 130) :: (nat_lit 131) :: (nat_lit 132) :: (nat_lit 133) :: (nat_lit 136) :: (nat_lit 138) :: (nat_lit 139) :: (nat_lit 141) :: (nat_lit 142) :: (nat_lit 143) :: (nat_lit 145) :: (nat_lit 146) :: (nat_lit 148) :: (nat_lit 149) :: (nat_lit 150) :: (nat_lit 152) :: (nat_lit 153) :: (nat_lit 155) :: (nat_lit 156) :: (nat_lit 157) :: (nat_lit 159) :: (nat_lit 160) :: (nat_lit 162) :: (nat_lit 163) :: (nat_lit 164) :: (nat_lit 166) :: (nat_lit 167) :: (nat_lit 169) :: (nat_lit 170) :: (nat_lit 171) :: (nat_lit 173) :: (nat_lit 174) :: (nat_lit 176) :: (nat_lit 177) :: (nat_lit 178) :: (nat_lit 180) :: (nat_lit 181) :: (nat_lit 183) :: (nat_lit 184) :: (nat_lit 185) :: (nat_lit 187) :: (nat_lit 188) :: (nat_lit 190) :: (nat_lit 191) :: (nat_lit 192) :: (nat_lit 194) :: (nat_lit 195) :: (nat_lit 197) :: (nat_lit 198) :: (nat_lit 199) :: (nat_lit 202) :: (nat_lit 203) :: (nat_lit 204) :: (nat_lit 207) :: (nat_lit 208) :: (nat_lit 209) :: (nat_lit 212) :: (nat_lit 213) :: (nat_lit 214) :: (nat_lit 216) :: (nat_lit 217) :: (nat_lit 219) :: (nat_lit 220) :: (nat_lit 221) :: (nat_lit 224) :: (nat_lit 225) :: (nat_lit 226) :: (nat_lit 229) :: (nat_lit 230) :: (nat_lit 231) :: (nat_lit 233) :: (nat_lit 234) :: (nat_lit 236) :: (nat_lit 237) :: (nat_lit 238) :: (nat_lit 240) :: (nat_lit 241) :: (nat_lit 243) :: (nat_lit 244) :: (nat_lit 245) :: (nat_lit 248) :: (nat_lit 249) :: []
theorem e39 (P : Params) : as39 = (hd.heap_39 P).map (·.1) := by kernel_rfl
noncomputable abbrev H39 : Hook := kmHook hd.heap_39 as39 e39 [71, 210]
abbrev loose39 : List Str := [Str.ofString "_twin_re_1", Str.ofString "_special_chars_map"]
noncomputable abbrev X39 (s : Shared) : Bool := xlAt hd.view_39 [] s && recOk (RowW.records R0.toRowW) s
abbrev L39 (w : World) : Prop := (openEnds treeTable PySem.Challenge.pw_in0069_01 w 5476).map (fun s => (openSeen hd.view_39 loose39 (importedModules PySem.Challenge.pw_in0069_01.main.body) X39 true s, Hook.obs H39 s)) = some (openGood hd.view_39 loose39, Hook.val H39 w)
theorem l39_false_false (w : World) : L39 ((w.withFollow "special-get-raises" false).withFollow "comprehension-iter-twice" false) := by
  generalize hw : (w.withFollow "special-get-raises" false).withFollow "comprehension-iter-twice" false = w'
  show (openEnds treeTable PySem.Challenge.pw_in0069_01 w' 5476).map (fun s => (openSeen hd.view_39 [Str.mk #[95, 116, 119, 105, 110, 95, 114, 101, 95, 49], Str.mk #[95, 115, 112, 101, 99, 105, 97, 108, 95, 99, 104, 97, 114, 115, 95, 109, 97, 112]] (importedModules PySem.Challenge.pw_in0069_01.main.body) (fun s => xlAt hd.view_39 [] s && recOk (RowW.records R0.toRowW) s) true s, Hook.obs (kmHook hd.heap_39 as39 e39 [71, 210]) s)) = some (openGood hd.view_39 [Str.mk #[95, 116, 119, 105, 110, 95, 114, 101, 95, 49], Str.mk #[95, 115, 112, 101, 99, 105, 97, 108, 95, 99, 104, 97, 114, 115, 95, 109, 97, 112]], Hook.val (kmHook hd.heap_39 as39 e39 [71, 210]) w')
  delta openEnds fencedOpening topFrom
  show _ = some (openGood _ _, (((hd.heap_39 w'.params).map fun p => some p.2, [71, 210].map fun _ => some (tabObj #[])) : List (Option Obj) × List (Option Obj)))
  show Option.map (fun s => (openSeen _ _ _ _ _ s, ((as39.map s.heap.get?, [71, 210].map s.heap.get?) : List (Option Obj) × List (Option Obj)))) _ = _
  rewrite [hd.pwS_eq, hd.viewS_eq, hd.heapS_eq, PySem.W.Fast.te14364793385576792824, PySem.W.Fast.te14082659384304107361, PySem.W.Fast.te10274390034422433532, PySem.W.Fast.te14289696077712309145, PySem.W.Fast.te1435165496053646825, PySem.W.Fast.te4187177175401517315, PySem.W.Fast.te5923862056798008813, PySem.W.Fast.te8920871248978507458]
  subst hw
  kernel_rfl
theorem l39_false_true (w : World) : L39 ((w.withFollow "special-get-raises" true).withFollow "comprehension-iter-twice" false) := by
  generalize hw : (w.withFollow "special-get-raises" true).withFollow "comprehension-iter-twice" false = w'
  show (openEnds treeTable PySem.Challenge.pw_in0069_01 w' 5476).map (fun s => (openSeen hd.view_39 [Str.mk #[95, 116, 119, 105, 110, 95, 114, 101, 95, 49], Str.mk #[95, 115, 112, 101, 99, 105, 97, 108, 95, 99, 104, 97, 114, 115, 95, 109, 97, 112]] (importedModules PySem.Challenge.pw_in0069_01.main.body) (fun s => xlAt hd.view_39 [] s && recOk (RowW.records R0.toRowW) s) true s, Hook.obs (kmHook hd.heap_39 as39 e39 [71, 210]) s)) = some (openGood hd.view_39 [Str.mk #[95, 116, 119, 105, 110, 95, 114, 101, 95, 49], Str.mk #[95, 115, 112, 101, 99, 105, 97, 108, 95, 99, 104, 97, 114, 115, 95, 109, 97, 112]], Hook.val (kmHook hd.heap_39 as39 e39 [71, 210]) w')
  delta openEnds fencedOpening topFrom
  show _ = some (openGood _ _, (((hd.heap_39 w'.params).map fun p => some p.2, [71, 210].map fun _ => some (tabObj #[])) : List (Option Obj) × List (Option Obj)))
  show Option.map (fun s => (openSeen _ _ _ _ _ s, ((as39.map s.heap.get?, [71, 210].map s.heap.get?) : List (Option Obj) × List (Option Obj)))) _ = _
  rewrite [hd.pwS_eq, hd.viewS_eq, hd.heapS_eq, PySem.W.Fast.te14364793385576792824, PySem.W.Fast.te14082659384304107361, PySem.W.Fast.te10274390034422433532, PySem.W.Fast.te14289696077712309145, PySem.W.Fast.te1435165496053646825, PySem.W.Fast.te4187177175401517315, PySem.W.Fast.te5923862056798008813, PySem.W.Fast.te8920871248978507458]
  subst hw
  kernel_rfl
theorem l39_true_false (w : World) : L39 ((w.withFollow "special-get-raises" false).withFollow "comprehension-iter-twice" true) := by
  generalize hw : (w.withFollow "special-get-raises" false).withFollow "comprehension-iter-twice" true = w'
  show (openEnds treeTable PySem.Challenge.pw_in0069_01 w' 5476).map (fun s => (openSeen hd.view_39 [Str.mk #[95, 116, 119, 105, 110, 95, 114, 101, 95, 49], Str.mk #[95, 115, 112, 101, 99, 105, 97, 108, 95, 99, 104, 97, 114, 115, 95, 109, 97, 112]] (importedModules PySem.Challenge.pw_in0069_01.main.body) (fun s => xlAt hd.view_39 [] s && recOk (RowW.records R0.toRowW) s) true s, Hook.obs (kmHook hd.heap_39 as39 e39 [71, 210]) s)) = some (openGood hd.view_39 [Str.mk #[95, 116, 119, 105, 110, 95, 114, 101, 95, 49], Str.mk #[95, 115, 112, 101, 99, 105, 97, 108, 95, 99, 104, 97, 114, 115, 95, 109, 97, 112]], Hook.val (kmHook hd.heap_39 as39 e39 [71, 210]) w')
  delta openEnds fencedOpening topFrom
  show _ = some (openGood _ _, (((hd.heap_39 w'.params).map fun p => some p.2, [71, 210].map fun _ => some (tabObj #[])) : List (Option Obj) × List (Option Obj)))
  show Option.map (fun s => (openSeen _ _ _ _ _ s, ((as39.map s.heap.get?, [71, 210].map s.heap.get?) : List (Option Obj) × List (Option Obj)))) _ = _
  rewrite [hd.pwS_eq, hd.viewS_eq, hd.heapS_eq, PySem.W.Fast.te14364793385576792824, PySem.W.Fast.te14082659384304107361, PySem.W.Fast.te10274390034422433532, PySem.W.Fast.te14289696077712309145, PySem.W.Fast.te1435165496053646825, PySem.W.Fast.te4187177175401517315, PySem.W.Fast.te5923862056798008813, PySem.W.Fast.te8920871248978507458]
  subst hw
  kernel_rfl
theorem l39_true_true (w : World) : L39 ((w.withFollow "special-get-raises" true).withFollow "comprehension-iter-twice" true) := by
  generalize hw : (w.withFollow "special-get-raises" true).withFollow "comprehension-iter-twice" true = w'
  show (openEnds treeTable PySem.Challenge.pw_in0069_01 w' 5476).map (fun s => (openSeen hd.view_39 [Str.mk #[95, 116, 119, 105, 110, 95, 114, 101, 95, 49], Str.mk #[95, 115, 112, 101, 99, 105, 97, 108, 95, 99, 104, 97, 114, 115, 95, 109, 97, 112]] (importedModules PySem.Challenge.pw_in0069_01.main.body) (fun s => xlAt hd.view_39 [] s && recOk (RowW.records R0.toRowW) s) true s, Hook.obs (kmHook hd.heap_39 as39 e39 [71, 210]) s)) = some (openGood hd.view_39 [Str.mk #[95, 116, 119, 105, 110, 95, 114, 101, 95, 49], Str.mk #[95, 115, 112, 101, 99, 105, 97, 108, 95, 99, 104, 97, 114, 115, 95, 109, 97, 112]], Hook.val (kmHook hd.heap_39 as39 e39 [71, 210]) w')
  delta openEnds fencedOpening topFrom
  show _ = some (openGood _ _, (((hd.heap_39 w'.params).map fun p => some p.2, [71, 210].map fun _ => some (tabObj #[])) : List (Option Obj) × List (Option Obj)))
  show Option.map (fun s => (openSeen _ _ _ _ _ s, ((as39.map s.heap.get?, [71, 210].map s.heap.get?) : List (Option Obj) × List (Option Obj)))) _ = _
  rewrite [hd.pwS_eq, hd.viewS_eq, hd.heapS_eq, PySem.W.Fast.te14364793385576792824, PySem.W.Fast.te14082659384304107361, PySem.W.Fast.te10274390034422433532, PySem.W.Fast.te14289696077712309145, PySem.W.Fast.te1435165496053646825, PySem.W.Fast.te4187177175401517315, PySem.W.Fast.te5923862056798008813, PySem.W.Fast.te8920871248978507458]
  subst hw
  kernel_rfl
theorem left39 : LeftO R0.prog hd.view_39 loose39 X39 (Hook.obs H39) (Hook.val H39) 5476 :=
  byRow2 (P := L39) "comprehension-iter-twice" (byRow2 (P := fun w => L39 (w.withFollow "comprehension-iter-twice" false)) "special-get-raises" l39_false_false l39_false_true) (byRow2 (P := fun w => L39 (w.withFollow "comprehension-iter-twice" true)) "special-get-raises" l39_true_false l39_true_true)
open PySem PySem.W PySem.Calls PyProof.Rows
local macro_rules | `(tactic| walk_at $s:str) => do
  let k := Lean.Syntax.mkStrLit ("my " ++ s.getString)
  `(tactic| k_extra $k)
local macro_rules | `(tactic| walk_at "m_hF") => `(tactic| (with_reducible rename Fr _ _ _ _ => kF))
local macro_rules | `(tactic| walk_at "m_hN") => `(tactic| (with_reducible rename News _ _ _ _ => kN))
local macro_rules | `(tactic| walk_at "m_i5") => `(tactic| (intro D' h' F' N' l1; (try k_lt l1); (try k_sweep)))
local macro_rules | `(tactic| walk_at "m_i8") => `(tactic| (intro D' o' h' tk' F' N' nX' l1; (try dsimp only at N'); (try k_lt l1); (try k_sweep)))
local macro_rules | `(tactic| walk_at "m_lv4") => `(tactic| (intro h' a0' R' U'; (try dsimp only at R' U' ⊢)))
local macro_rules | `(tactic| walk_at "m_lv3") => `(tactic| (intro h' R' U'; (try dsimp only at R' U' ⊢)))

abbrev PP : Program := PySem.Challenge.rw_in0069_01.row.prog
abbrev Kept (h h' : Heap) : Prop := ∀ b o, h.get? b = some o → h'.get? b = some o

/-- entering a plain def, all that stands kept as it stands -/
theorem enter0 {prog : Program} {w : World} {A A₀ : Around} {s : Shared} {K : Frag} {L : Addr} {h₀ base : Heap} {m mg mb : Str → Option Value} {p : Program} {loose : List Str} {mean : ExcName → Option Value}
    {env : Env} {outer : List Env} {R : Result → Shared → Prop} {name qual : Str} {params : Arguments} {body : List Stmt} {scope : Scope} {dV kV doc pm cdv ct oc : Value} {an od : Option Addr} {osl : Array (Option Value)} {f : Addr} {args : Args} {binds : List (Str × Value)}
    (B : Below A₀ base outer h₀) (F : Fr h₀ L s.heap m) (X₀ : K.In h₀) (T : Top p loose mean mg mb h₀) (hA : A.frames = some (env :: outer)) (hf : env.frame = some L) (hke : env.scope.kind = .function)
    (ho : K.lookup f = some ⟨oc, od, .func (fnOf name qual params body scope dV kV doc pm an cdv ct), osl⟩) (hcd : codeIn K cdv qual = true) (hroom : A.depth < recursionLimit)
    (hbind : BindsTo s (fnOf name qual params body scope dV kV doc pm an cdv ct) args binds) (hloc : ∀ y ∈ binds, scope.names.lookup y.1 = some .local)
    (h : ∀ g L' h₁, s.heap = g → Fr g L' h₁ (fun y => binds.reverse.lookup y) → News g L' h₁ [] → Below A base (env :: outer) g → K.In g → Top p loose mean mg mb g →
      wpAny (model prog w) (A.deeper (envOf qual scope L' f cdv)) (execs body (envOf qual scope L' f cdv))
        (fun fl s' => R (.ok (.ret (match fl with | .ret v => v | _ => .none))) s')
        (fun e s' => wpAny (model prog w) (A.deeper (envOf qual scope L' f cdv)) (leaving (envOf qual scope L' f cdv) e) (fun _ s'' => R (.error e) s'') (fun e' s'' => R (.error e') s'') s')
        { s with heap := h₁, toks := s.toks + binds.length })
    (hco : scope.isCoroutine = false) (hgen : scope.isGenerator = false) (hk : scope.kind = .function)
    (hcell : ∀ x ∈ scope.names, x.2 ≠ .cell) : codeAny (model prog w) A (.call (.ref f) args) R s :=
  codeAny_call_def (fd := fnOf name qual params body scope dV kV doc pm an cdv ct) (body := body) (binds := binds) hroom ((X₀.keeps F.keep) _ _ ho) rfl (T.nolimit.keeps F.keep) (codeRec_of (X₀.keeps F.keep) hcd) rfl hbind hcell hloc
    (fun h₁ hns hk₁ => h s.heap s.heap.objs.size h₁ rfl ⟨hns, hk₁, Nat.le_refl _⟩ News.nil ⟨hA, (pushX B F hf hke).stays, (pushX B F hf hke).frames⟩ (X₀.keeps F.keep) (T.keeps F.keep)) hco hgen hk

/-- the same where the def takes the rest of the arguments -/
theorem enterRest0 {prog : Program} {w : World} {A A₀ : Around} {s : Shared} {K : Frag} {L : Addr} {h₀ base : Heap} {m mg mb : Str → Option Value} {p : Program} {loose : List Str} {mean : ExcName → Option Value}
    {env : Env} {outer : List Env} {R : Result → Shared → Prop} {name qual : Str} {params : Arguments} {body : List Stmt} {scope : Scope} {dV kV doc pm cdv ct oc : Value} {an od : Option Addr} {osl : Array (Option Value)} {f : Addr} {args : Args} {vs : List Value} {binds : Value → List (Str × Value)}
    (B : Below A₀ base outer h₀) (F : Fr h₀ L s.heap m) (X₀ : K.In h₀) (T : Top p loose mean mg mb h₀) (hA : A.frames = some (env :: outer)) (hf : env.frame = some L) (hke : env.scope.kind = .function)
    (ho : K.lookup f = some ⟨oc, od, .func (fnOf name qual params body scope dV kV doc pm an cdv ct), osl⟩) (hcd : codeIn K cdv qual = true) (hroom : A.depth < recursionLimit)
    (hbind : bindArgs (fnOf name qual params body scope dV kV doc pm an cdv ct) args = (newTuple vs >>= fun v => pure (binds v))) (hvs : vs.length ≤ sizeLine) (hloc : ∀ v, ∀ y ∈ binds v, scope.names.lookup y.1 = some .local)
    (h : ∀ D g L' h₁, s.heap = g → Fr g L' h₁ (fun y => (binds (.ref D)).reverse.lookup y) → News g L' h₁ [(D, { cls := .type "tuple", data := .seq vs.toArray })] → D < L' → Below A base (env :: outer) g → K.In g → Top p loose mean mg mb g →
      wpAny (model prog w) (A.deeper (envOf qual scope L' f cdv)) (execs body (envOf qual scope L' f cdv))
        (fun fl s' => R (.ok (.ret (match fl with | .ret v => v | _ => .none))) s')
        (fun e s' => wpAny (model prog w) (A.deeper (envOf qual scope L' f cdv)) (leaving (envOf qual scope L' f cdv) e) (fun _ s'' => R (.error e) s'') (fun e' s'' => R (.error e') s'') s')
        { s with heap := h₁, toks := s.toks + (binds (.ref D)).length })
    (hco : scope.isCoroutine = false) (hgen : scope.isGenerator = false) (hk : scope.kind = .function)
    (hcell : ∀ x ∈ scope.names, x.2 ≠ .cell) : codeAny (model prog w) A (.call (.ref f) args) R s := by
  refine codeAny_call_function (fd := fnOf name qual params body scope dV kV doc pm an cdv ct) (body := body) hroom ((X₀.keeps F.keep) _ _ ho) rfl hco hgen rfl (codeRec_of (X₀.keeps F.keep) hcd) ?_
  rw [hbind]
  refine wpAny_bind (wpAny_newObj_type (wpAny_pure ?_) (by show vs.toArray.size ≤ sizeLine; rw [List.size_toArray]; exact hvs))
  have hlim := (T.nolimit.keeps F.keep)
  have hlim2 : (s.heap.push { cls := .type "tuple", data := .seq vs.toArray }).NoLimit := hlim.keeps fun b o e => Heap.get?_push_of_some _ e
  refine wpAny_newFunctionEnv hcell (hloc _) (fun h₁ hns hsb => ⟨hlim2.fresh _ hsb, ?_⟩) hk
  have hsz : (s.heap.push ({ cls := .type "tuple", data := .seq vs.toArray } : Obj)).objs.size = s.heap.objs.size + 1 := Heap.size_push ..
  have hk₁ : ∀ b o, s.heap.get? b = some o → h₁.get? b = some o := fun b o e =>
    hsb.extBut b o (Nat.ne_of_lt (Heap.lt_size (Heap.get?_push_of_some _ e))) (Heap.get?_push_of_some _ (Heap.get?_push_of_some _ e))
  refine codeAny_func (h s.heap.objs.size s.heap _ h₁ rfl ⟨hns, hk₁, ?_⟩ ?_ ?_ ⟨hA, (pushX B F hf hke).stays, (pushX B F hf hke).frames⟩ (X₀.keeps F.keep) (T.keeps F.keep))
  · show s.heap.objs.size ≤ (s.heap.push _).objs.size
    rw [hsz]; exact Nat.le_succ _
  · intro q hq
    rw [List.mem_singleton.mp hq]
    refine ⟨hsb.extBut _ _ ?_ (Heap.get?_push_of_some _ (Heap.get?_push_size _ rfl)), ?_, Heap.get?_none_of_le (Nat.le_refl _)⟩
    · exact Nat.ne_of_lt (by show s.heap.objs.size < (s.heap.push _).objs.size; rw [hsz]; exact Nat.lt_succ_self _)
    · exact Nat.ne_of_lt (by show s.heap.objs.size < (s.heap.push _).objs.size; rw [hsz]; exact Nat.lt_succ_self _)
  · show s.heap.objs.size < (s.heap.push _).objs.size
    rw [hsz]; exact Nat.lt_succ_self _

/-- what a call of a def that changes nothing that stands gives back -/
abbrev Spec0 (w : World) (f : Addr) (d u : Nat) (pre : Heap → Prop) (vs : List Value) (post : Heap → Value → Prop) : Prop :=
  ∀ (p : Program) (loose : List Str) (mean : ExcName → Option Value) (mg mb : Str → Option Value) (dp un : Nat) (gd : Option (List Code)) (cn : Str) (cs : Scope) (a : Addr) (ccd : Value) (cl : List (Str × Addr))
    (outer : List Env) (A₀ : Around) (base h₀ : Heap) (L : Addr) (m : Str → Option Value) (s : Shared) (Q E : Value → Shared → Prop),
    Below A₀ base outer h₀ → Fr h₀ L s.heap m → (hd.heap_39 w.params).In h₀ → Top p loose mean mg mb h₀ → cs.kind = .function → dp + d < recursionLimit → un + u < cLine → pre s.heap →
    (∀ v h' tk', Kept s.heap h' → post h' v → Q v { s with heap := h', toks := tk' }) →
    wpAny (model PP w) (ktrTop dp un gd cn cs L a ccd cl outer) (call (.ref f) vs) Q E s

section
variable {prog : Program} {w : World} {A : Around} {E : Value → Shared → Prop} {s : Shared}
theorem kind_issn : builtinKind "issubclass.nested" = none := by decide +kernel
theorem plain_issn : plainId "issubclass.nested" = true := by decide +kernel
theorem args_issn (a b c : Value) : argsOk "issubclass.nested" ⟨[a, b, c], []⟩ := by unfold argsOk; kernel_rfl
theorem str_self : isSubtype (.type "str") (.type "str") = pure true := by rw [isSubtype_type]; kernel_rfl
theorem str_meta : (Value.type "type" == Value.type "type") = true := by decide
theorem str_kind : typeOf (.type "str") = pure (.type "type") := by first | rfl | kernel_rfl | decide +kernel
theorem iss_str {dep : Int} {tk : Tok} {Q : Fin → Shared → Prop} (hq : Q (.done (.ret (.bool true))) s) :
    wpAny (model prog w) A (Builtin.«issubclass.nested» ⟨[.type "str", .type "str", .int dep tk], []⟩) Q E s := by
  have hm := str_meta
  have hk := str_kind
  have hself := str_self
  repeat (any_goals (first | assumption | (rw [if_pos hm]) | (rw [hself]) | wp_step))
theorem iss_strM {dep : Int} {tk : Tok} : Meets (Builtin.«issubclass.nested» ⟨[.type "str", .type "str", .int dep tk], []⟩) (fun _ R s => R (.ok (.ret (.bool true))) s) :=
  fun _ _ _ _ _ hs => iss_str hs
theorem iss_tup {a : Addr} {n : Nat} {cs rest : List Value} {dep : Int} {tk : Tok} {Q : Fin → Shared → Prop} (hd : dep = 0) (hcs : cs = Value.type "str" :: rest)
    (ho : s.heap.get? a = some { cls := .type "tuple", data := .seq cs.toArray n }) (hq : Q (.done (.ret (.bool true))) s) :
    wpAny (model prog w) A (Builtin.«issubclass.nested» ⟨[.type "str", .ref a, .int dep tk], []⟩) Q E s := by
  subst hd
  obtain ⟨h, g, d, t, os⟩ := s
  have hT2 : (⟨h, g, d, t, os⟩ : Shared).TypeIs (.ref a) "tuple" := ⟨_, ho, rfl⟩
  have f1 := F.isi_sub_tuple
  repeat (any_goals (first | assumption | wp_step))
  refine wpAny_arrayLoop ?_
  subst hcs
  simp only [Option.getD_some, List.forIn_cons]
  refine wpAny_bind (wpAny_bind (call_function_meets kind_issn plain_issn F.entry_issubclass_nested (args_issn _ _ _) iss_strM ?_))
  show wpAny _ _ (truthy (.bool true) >>= _) _ _ _
  refine wpAny_bind (m := truthy (.bool true)) (wpAny_pure ?_)
  exact wpAny_bind (wpAny_pure (wpAny_pure (wpAny_pure (wpAny_pure hq))))
theorem call_iss {a : Addr} {n : Nat} {rest : List Value} {Q : Value → Shared → Prop} 
    (ho : s.heap.get? a = some { cls := .type "tuple", data := .seq (Value.type "str" :: rest).toArray n }) (hq : Q (.bool true) s) :
    wpAny (model prog w) A (call (.builtin "issubclass") [.type "str", .ref a]) Q E s :=
  call_issubclass (S := fun _ R s => s.heap.get? a = some { cls := .type "tuple", data := .seq (Value.type "str" :: rest).toArray n } ∧ R (.ok (.ret (.bool true))) s)
    (fun _ _ _ _ _ hs => issubclass_outer (iss_tup rfl rfl hs.1 hs.2)) ⟨ho, hq⟩
end


theorem use0 {w : World} {f : Addr} {d u : Nat} {pre : Heap → Prop} {vs : List Value} {post : Heap → Value → Prop} (S : Spec0 w f d u pre vs post)
    {p : Program} {loose : List Str} {mean : ExcName → Option Value} {mg mb : Str → Option Value} {dp un : Nat} {gd : Option (List Code)} {cn : Str} {cs : Scope} {a : Addr} {ccd : Value} {cl : List (Str × Addr)}
    {outer : List Env} {A₀ : Around} {base h₀ : Heap} {L : Addr} {m : Str → Option Value} {s : Shared} {Q E : Value → Shared → Prop} {news : List (Addr × Obj)}
    (B : Below A₀ base outer h₀) (F : Fr h₀ L s.heap m) (X : (hd.heap_39 w.params).In h₀) (N : News h₀ L s.heap news) (T : Top p loose mean mg mb h₀) (hk : cs.kind = .function) (hd : dp + d < recursionLimit) (hu : un + u < cLine) (hp : pre s.heap)
    (ret : ∀ v h' tk', Kept s.heap h' → post h' v → Fr h₀ L h' m → News h₀ L h' news → Q v { s with heap := h', toks := tk' }) :
    wpAny (model PP w) (ktrTop dp un gd cn cs L a ccd cl outer) (call (.ref f) vs) Q E s :=
  S _ _ _ _ _ _ _ _ _ _ _ _ _ _ _ _ _ _ _ _ _ _ B F X T hk hd hu hp fun v h' tk' hk' hp' =>
    ret v h' tk' hk' hp' ⟨F.ns.keeps hk', fun b o e => hk' b o (F.keep b o e), F.above⟩ fun q hq => ⟨hk' _ _ (N q hq).1, (N q hq).2⟩

theorem fillit : PySem.Challenge.rw_in0069_01 = PySem.Challenge.rw_in0069_01 ∧ hd.heap_39 = hd.heap_39 := by
  w_top off
  k_fill
  exact ⟨rfl, rfl⟩

/-- where the walk is to stop -/
def Stop (P : Prop) : Prop := P
theorem Stop.out {P : Prop} (h : Stop P) : P := h
theorem Stop.go {P : Prop} (h : P) : Stop P := h
section
variable {prog : Program} {w : World} {A : Around} {E : Value → Shared → Prop} {s : Shared} {env : Env} {h₀ : Heap} {Q : Flow → Shared → Prop}

/-- what a turn leaves: the iterator as it was, the word for one more -/
def TurnEnd (h₀ : Heap) (L I : Addr) (oI : Obj) (J : (Str → Option Value) → List (Addr × Obj) → Prop) (Q : Flow → Shared → Prop) (s₁ : Shared) (f : Flow) (s₂ : Shared) : Prop :=
  match f with
  | .ret v => Q (.ret v) s₂
  | .brk => Q .next s₂
  | _ => ∃ h' tk' m' news', s₂ = { s₁ with heap := h', toks := tk' } ∧ Fr h₀ L h' m' ∧ News h₀ L h' ((I, oI) :: news') ∧ (∀ p ∈ news', p.1 ≠ I) ∧ J m' news'

theorem TurnEnd.go {L I : Addr} {oI : Obj} {J : (Str → Option Value) → List (Addr × Obj) → Prop} {s₁ : Shared} {h' : Heap} {tk' : Nat} {m' : Str → Option Value} (news' : List (Addr × Obj))
    (F : Fr h₀ L h' m') (N : News h₀ L h' ((I, oI) :: news')) (hI : ∀ p ∈ news', p.1 ≠ I) (j : J m' news') : TurnEnd h₀ L I oI J Q s₁ .next { s₁ with heap := h', toks := tk' } :=
  ⟨h', tk', m', news', rfl, F, N, hI, j⟩

theorem TurnEnd.goC {L I : Addr} {oI : Obj} {J : (Str → Option Value) → List (Addr × Obj) → Prop} {s₁ : Shared} {h' : Heap} {tk' : Nat} {m' : Str → Option Value} (news' : List (Addr × Obj))
    (F : Fr h₀ L h' m') (N : News h₀ L h' ((I, oI) :: news')) (hI : ∀ p ∈ news', p.1 ≠ I) (j : J m' news') : TurnEnd h₀ L I oI J Q s₁ .cont { s₁ with heap := h', toks := tk' } :=
  ⟨h', tk', m', news', rfl, F, N, hI, j⟩

theorem TurnEnd.goS {L I : Addr} {oI : Obj} {J : (Str → Option Value) → List (Addr × Obj) → Prop} {s₁ : Shared} {h' : Heap} {tk' : Nat} {m' : Str → Option Value} {led : List (Addr × Obj)} (news' : List (Addr × Obj))
    (F : Fr h₀ L h' m') (N : News h₀ L h' led) (hs : ∀ p ∈ (I, oI) :: news', p ∈ led) (hI : ∀ p ∈ news', p.1 ≠ I) (j : J m' news') : TurnEnd h₀ L I oI J Q s₁ .next { s₁ with heap := h', toks := tk' } :=
  ⟨h', tk', m', news', rfl, F, fun p hp => N p (hs p hp), hI, j⟩

theorem iter_list {target : Expr} {body : List Stmt} {l : Addr} {vs : List Value} {m₀ : Str → Option Value} {news₀ : List (Addr × Obj)} (J : Nat → (Str → Option Value) → List (Addr × Obj) → Prop)
    (hh : A.handled = none) (hls : s.heap.IsList l vs.toArray) (F : Fr h₀ env.locals s.heap m₀) (N : News h₀ env.locals s.heap news₀) (hj : J 0 m₀ news₀)
    (hJl : ∀ i m₁ news₁ h, J i m₁ news₁ → Fr h₀ env.locals h m₁ → News h₀ env.locals h news₁ → h.IsList l vs.toArray)
    (turn : ∀ i v m₁ news₁ h tk I oI, vs[i]? = some v → J i m₁ news₁ → (∀ p ∈ news₀, p.1 < I) → (∀ p ∈ news₁, p.1 ≠ I) → env.locals < I → Fr h₀ env.locals h m₁ → News h₀ env.locals h ((I, oI) :: news₁) →
      wpAny (model prog w) A (assign target env v) (fun _ s₂ => wpAny (model prog w) A (execs body env) (TurnEnd h₀ env.locals I oI (J (i + 1)) Q { s with heap := h, toks := tk }) (fun _ _ => False) s₂) (fun _ _ => False) { s with heap := h, toks := tk })
    (done : ∀ m₁ news₁ h tk, J vs.length m₁ news₁ → Fr h₀ env.locals h m₁ → News h₀ env.locals h news₁ → Q .next { s with heap := h, toks := tk }) :
    wpAny (model prog w) A (pyIter (.ref l)) (fun it s₂ => codeAny (model prog w) A (.forLoop target it body [] env) (fun r s' => match r with | .ok f => Q f s' | .error e => cameBackBy (model prog w) A env E e s') s₂) E s := by
  refine wpAny_pyIter_list hls ?_
  have hLI : env.locals < s.heap.objs.size := F.ns.lt
  have hI0 : h₀.get? s.heap.objs.size = none := next_is_new F
  have hnI : ∀ p ∈ news₀, p.1 < s.heap.objs.size := fun p hp => Heap.lt_size (N p hp).1
  refine codeAny_forLoop_any
    (fun k s' => ∃ h' tk m' news' i, s' = { s with heap := h', toks := tk } ∧ h'.IsListIter s.heap.objs.size l i ∧ Fr h₀ env.locals h' m' ∧ News h₀ env.locals h' news' ∧ (∀ p ∈ news', p.1 ≠ s.heap.objs.size) ∧ J i m' news' ∧ i ≤ vs.length ∧ k = vs.length + 1 - i) ?_ (vs.length + 1)
    ⟨s.heap.push { cls := .type "list_iterator", data := .fields #[.ref l, .int 0 0] }, s.toks, m₀, news₀, 0, rfl, ⟨_, Heap.get?_push_size _ rfl, rfl, rfl⟩, F.push _, (fun p hp => ⟨Heap.get?_push_of_some _ (N p hp).1, (N p hp).2⟩), (fun p hp => Nat.ne_of_lt (hnI p hp)), hj, Nat.zero_le _, rfl⟩
  rintro k s' hq0
  refine hide ?_
  intro Gq hGq
  obtain ⟨h', tk, m', news', i, rfl, hit, F', N', hne, hJ, hi, rfl⟩ := hq0
  refine hGq ?_
  clear hGq Gq
  have next : ∀ h₁ : Heap, (∀ b o, b ≠ s.heap.objs.size → h'.get? b = some o → h₁.get? b = some o) → Fr h₀ env.locals h₁ m' ∧ News h₀ env.locals h₁ news' := fun h₁ hk₁ =>
    ⟨⟨F'.ns.at' fun o e => hk₁ _ o (Nat.ne_of_lt hLI) e, fun b o e => hk₁ b o (fun q => by rw [q, hI0] at e; cases e) (F'.keep b o e), F'.above⟩, fun p hp => ⟨hk₁ _ _ (hne p hp) (N' p hp).1, (N' p hp).2⟩⟩
  have hl' := hJl i m' news' h' hJ F' N'
  by_cases hlt : i < vs.length
  · refine wpAny_pyNext_list_item hit hl' (x := vs[i]) (by simp [hlt]) fun h₁ hit₁ hs₁ => ?_
    obtain ⟨F₁, N₁⟩ := next h₁ fun b o hb e => (hs₁.2 b hb).trans e
    refine letGo_listiter hit₁ ?_
    refine hide ?_
    intro Gq hGq
    obtain ⟨oI, hoI, hcI, hdI⟩ := id hit₁
    refine hGq ?_
    clear hGq Gq
    have NI : News h₀ env.locals h₁ ((s.heap.objs.size, oI) :: news') := fun p hp => by
      rcases List.mem_cons.mp hp with rfl | hp
      · exact ⟨hoI, Nat.ne_of_gt hLI, hI0⟩
      · exact N₁ p hp
    refine wpAny_mono (turn i vs[i] m' news' h₁ tk s.heap.objs.size oI (by simp [hlt]) hJ hnI hne hLI F₁ NI) (fun _ s₂ h₂ => wpAny_mono h₂ (fun f s₃ h₃ => ?_) fun _ _ e => e.elim) fun _ _ e => e.elim
    have fin : (∃ h' tk' m' news', s₃ = { ({ s with heap := h₁, toks := tk } : Shared) with heap := h', toks := tk' } ∧ Fr h₀ env.locals h' m' ∧ News h₀ env.locals h' ((s.heap.objs.size, oI) :: news') ∧ (∀ p ∈ news', p.1 ≠ s.heap.objs.size) ∧ J (i + 1) m' news') →
        ∃ m, m < vs.length + 1 - i ∧ ∃ h' tk m' news' i, s₃ = { s with heap := h', toks := tk } ∧ h'.IsListIter s.heap.objs.size l i ∧ Fr h₀ env.locals h' m' ∧ News h₀ env.locals h' news' ∧ (∀ p ∈ news', p.1 ≠ s.heap.objs.size) ∧ J i m' news' ∧ i ≤ vs.length ∧ m = vs.length + 1 - i := by
      rintro hq0
      refine hide ?_
      intro Gq hGq
      obtain ⟨h₂, tk₂, m₂, news₂, rfl, F₂, N₂, ne₂, J₂⟩ := hq0
      refine hGq ?_
      clear hGq Gq
      exact ⟨vs.length + 1 - (i + 1), by omega, h₂, tk₂, m₂, news₂, i + 1, rfl, ⟨oI, (N₂ _ (.head _)).1, hcI, hdI⟩, F₂, fun p hp => N₂ p (.tail _ hp), ne₂, J₂, hlt, rfl⟩
    cases f with
    | ret v => exact h₃
    | brk => exact h₃
    | next => exact fin h₃
    | cont => exact fin h₃
  · have hin : i = vs.length := by omega
    subst hin
    refine wpAny_pyNext_list_end hh hit hl' (by simp) fun h₁ hs₁ => wpAny_execs_nil ?_
    obtain ⟨F₁, N₁⟩ := next h₁ fun b o hb e => hs₁ b o hb e
    exact done m' news' h₁ tk hJ F₁ N₁
end
section
variable {prog : Program} {w : World} {A : Around} {E : Value → Shared → Prop} {s : Shared} {h₀ : Heap} {L D : Addr} {m : Str → Option Value} {news news' : List (Addr × Obj)} {n : Nat}
theorem my_pop {us : List Value} {y : Value} {Q : Value → Shared → Prop} (F : Fr h₀ L s.heap m) (N : News h₀ L s.heap news) (U : Upd D (W.listOf (us ++ [y]).toArray n) (W.listOf us.toArray (n + 1)) news news')
    (hz : us.length + 1 ≤ sizeLine) (h : ∀ h', Fr h₀ L h' m → News h₀ L h' news' → Q y { s with heap := h' }) : wpAny (model prog w) A (call (.builtin "list.pop") [.ref D]) Q E s :=
  kl_pop F N (its := (us ++ [y]).toArray) (by rw [List.toList_toArray]; exact kpa_last y us) U (by rw [List.toList_toArray, List.length_append]; exact hz) h
theorem my_last {value slice : Expr} {us : List Value} {y : Value} {u : Tok} {Q : Value → Shared → Prop} (N : News h₀ L s.heap news) (hm : (D, W.listOf (us ++ [y]).toArray n) ∈ news) (h : Q y s)
    (hs : subscripted slice false (.ref D) (.int (-1) u) = operate [.ref D, .int (-1) u] (getItem (.ref D) (.int (-1) u)) := by with_unfolding_all rfl) :
    wpAny (model prog w) A (subscriptTail value slice (.ref D) (.int (-1) u)) Q E s :=
  have hl : s.heap.IsList D (us ++ [y]).toArray := News.isList N hm
  tail_any hl.typeIs slot_list_getitem.lookup (wpAny_getItem_list_neg hl (by decide) (by rw [List.size_toArray, List.length_append]; simp; omega) (by decide)
    (by rw [List.size_toArray, List.length_append]
        have e : (-1 + ((us.length + [y].length : Nat) : Int)).toNat = us.length := by simp; omega
        rw [e]; simp) h) hs
theorem my_append {us : List Value} {x : Value} {Q : Value → Shared → Prop} (F : Fr h₀ L s.heap m) (N : News h₀ L s.heap news) (U : Upd D (W.listOf us.toArray n) (W.listOf (us ++ [x]).toArray (n + 1)) news news')
    (hz : us.length ≤ sizeLine) (h : ∀ h', Fr h₀ L h' m → News h₀ L h' news' → Q .none { s with heap := h' }) : wpAny (model prog w) A (call (.builtin "list.append") [.ref D, x]) Q E s :=
  append_K F N (its := us.toArray) (by rw [List.push_toArray]; exact U) h (by rw [List.size_toArray]; exact hz)
end
theorem strValues_length (l : List (Str × Tok)) : (strValues l).length = l.length := by simp [strValues]
theorem strValues_snoc (l : List (Str × Tok)) (p : Str × Tok) : strValues (l ++ [p]) = strValues l ++ [.str p.1 p.2] := by simp [strValues]
theorem strValues_get (l : List (Str × Tok)) (i : Nat) (v : Value) (h : (strValues l)[i]? = some v) : ∃ p, l[i]? = some p ∧ v = .str p.1 p.2 := by
  unfold strValues at h
  rw [List.getElem?_map] at h
  cases q : l[i]? with
  | none => rw [q] at h; cases h
  | some p => rw [q] at h; exact ⟨p, rfl, (Option.some.inj h).symm⟩
theorem SA.of (l : List (Str × Tok)) : StrsAre (strValues l) (l.map (·.1)) := by
  induction l with
  | nil => exact .nil
  | cons p r ih => exact .cons p.1 p.2 ih
theorem SA.length {vs : List Value} {ss : List Str} (h : StrsAre vs ss) : vs.length = ss.length := by
  induction h with
  | nil => rfl
  | cons y t _ ih => simp [ih]
theorem SA.append {vs us : List Value} {ss ts : List Str} (h : StrsAre vs ss) (k : StrsAre us ts) : StrsAre (vs ++ us) (ss ++ ts) := by
  induction h with
  | nil => exact k
  | cons y t _ ih => exact .cons y t ih
theorem SA.snoc {vs : List Value} {ss : List Str} (h : StrsAre vs ss) (c : Str) (t : Tok) : StrsAre (vs ++ [.str c t]) (ss ++ [c]) := SA.append h (.cons c t .nil)
theorem SA.unsnoc {vs : List Value} {y : Value} {ss : List Str} (h : StrsAre (vs ++ [y]) ss) : ∃ ini z t, ss = ini ++ [z] ∧ y = .str z t ∧ StrsAre vs ini := by
  induction vs generalizing ss with
  | nil => cases h with
    | cons z t r => cases r; exact ⟨[], z, t, rfl, rfl, .nil⟩
  | cons u vs ih => cases h with
    | cons z t r =>
      refine hide ?_
      intro Gq hGq
      obtain ⟨ini, z', t', rfl, rfl, k⟩ := ih r
      refine hGq ?_
      clear hGq Gq
      exact ⟨z :: ini, z', t', rfl, rfl, .cons z t k⟩
theorem SA.get {vs : List Value} {ss : List Str} (h : StrsAre vs ss) : ∀ {i : Nat} {v : Value}, vs[i]? = some v → ∃ c t, v = .str c t ∧ ss[i]? = some c := by
  induction h with
  | nil => intro i v e; cases e
  | cons y t _ ih =>
    intro i v e
    cases i with
    | zero => cases e; exact ⟨y, t, rfl, rfl⟩
    | succ i => exact ih e
theorem snoc_isEmpty {α : Type} (l : List α) (x : α) : (l ++ [x]).isEmpty = false := by simp

section
variable {prog : Program} {w : World} {A : Around} {E : Value → Shared → Prop} {R : Result → Shared → Prop} {s : Shared}

theorem compLoop_any {elt target iter : Expr} {ifs : List Expr} {scope : Scope} {pos : Pos} {it acc : Value} {env : Env} (I : Nat → Shared → Prop)
    (turn : ∀ n s, I n s → wpAny (model prog w) A (pyNext it) (fun r s₁ => match r with
      | none => R (.ok .next) s₁
      | some v => wpAny (model prog w) A (letOwnedTupleGo target it v) (fun _ s₁' => wpAny (model prog w) A (assign target env v) (fun _ s₂ =>
          wpAny (model prog w) A (forIn ifs true fun c r => if r = true then do let ok ← isTrue c env (eval c env); pure (ForInStep.yield ok) else pure (ForInStep.yield r)) (fun ok s₃ =>
            if ok = true then wpAny (model prog w) A (eval elt env) (fun x s₄ =>
              wpAny (model prog w) A (call (.builtin "list.append") [acc, x]) (fun _ s₅ => ∃ m, m < n ∧ I m s₅) (notedBy (model prog w) A env fun e s' => R (.error e) s') s₄) (notedBy (model prog w) A env fun e s' => R (.error e) s') s₃
            else ∃ m, m < n ∧ I m s₃) (notedBy (model prog w) A env fun e s' => R (.error e) s') s₂) (notedBy (model prog w) A env fun e s' => R (.error e) s') s₁') (notedBy (model prog w) A env fun e s' => R (.error e) s') s₁) (notedBy (model prog w) A env fun e s' => R (.error e) s') s)
    (n : Nat) (h : I n s) :
    codeAny (model prog w) A (.compLoop (.ListComp elt [⟨target, iter, ifs, 0⟩] scope pos) 0 it acc env) R s := by
  refine codeAny_loop rfl I (fun n s hI => ?_) n h
  show wpAny _ A ((compTurn (.ListComp elt [⟨target, iter, ifs, 0⟩] scope pos) 0 it acc env).onRaise (fun x => do noteFrame x env; theTreesLotGoes x)) _ _ s
  refine wpAny_noted ?_
  rw [compTurn_list]
  refine wpAny_bind (wpAny_standAt (wpAny_bind (wpAny_mono (turn n s hI) (fun r s₁ h₁ => ?_) fun _ _ h' => h')))
  cases r with
  | none => exact wpAny_pure h₁
  | some v =>
    refine wpAny_bind (wpAny_mono h₁ (fun _ s₁' h₁' => ?_) fun _ _ h' => h')
    refine wpAny_bind (wpAny_mono h₁' (fun _ s₂ h₂ => wpAny_bind (wpAny_mono h₂ (fun ok s₃ h₃ => ?_) fun _ _ h' => h')) fun _ _ h' => h')
    cases ok with
    | false => exact wpAny_pure ⟨rfl, h₃⟩
    | true =>
      exact wpAny_bind (wpAny_bind (wpAny_mono h₃ (fun x s₄ h₄ => wpAny_bind (wpAny_mono h₄ (fun _ s₅ h₅ => wpAny_pure (wpAny_pure ⟨rfl, h₅⟩)) fun _ _ h' => h')) fun _ _ h' => h'))
end

/-- a block's names, told of the object alone -/
def NsObj (o : Obj) (m : Str → Option Value) : Prop := ∃ es ep, o.data = .dict es ep ∧ StrKeys es ∧ ∀ name, nsFind es name = m name
theorem NsObj.ns {h : Heap} {a : Addr} {o : Obj} {m : Str → Option Value} (x : NsObj o m) (e : h.get? a = some o) : h.Ns a m := let ⟨es, ep, r⟩ := x; ⟨o, es, ep, e, r⟩
theorem nsObj_of {h : Heap} {a : Addr} {m : Str → Option Value} (x : h.Ns a m) : ∃ o, h.get? a = some o ∧ NsObj o m := let ⟨o, es, ep, e, r⟩ := x; ⟨o, e, es, ep, r⟩

/-- what a turn of a list's making leaves -/
def MakeEnd (h₀ : Heap) (L : Addr) (m₀ : Str → Option Value) (own : List (Addr × Obj)) (J : List (Addr × Obj) → Prop) (s₁ s₂ : Shared) : Prop :=
  ∃ h' tk' news', s₂ = { s₁ with heap := h', toks := tk' } ∧ Fr h₀ L h' m₀ ∧ News h₀ L h' (own ++ news') ∧ (∀ p ∈ news', ∀ q ∈ own, p.1 ≠ q.1) ∧ J news'

section
variable {prog : Program} {w : World} {A : Around} {E : Value → Shared → Prop} {env : Env} {h₀ : Heap} {m₀ : Str → Option Value}

theorem comp_my {elt target iter : Expr} {ifs : List Expr} {scope : Scope} {cl : List (Str × Addr)} {pos : Pos} {s₂ : Shared} {I : Addr} {fp wr : List Addr} {n : Nat} {P : Nat → Value → Prop}
    {St : Nat → Heap → Prop} {news₀ : List (Addr × Obj)} {Q : Value → Shared → Prop} (J : Nat → List Value → List (Addr × Obj) → Prop) (T : Nat → Value → (Str → Option Value) → Prop) (Ex : Addr → Addr → Value → Shared → Prop)
    (Wk : Walks prog w A I fp wr n P St) (hwr : ∀ b, b ∈ wr → b = I) (hsz : n ≤ sizeLine)
    (hcell : ∀ y ∈ scope.names, y.2 ≠ .cell) (hkind : scope.kind = .function) (hst : St 0 s₂.heap) (hI : (∃ o, s₂.heap.get? I = some o) ∧ h₀.get? I = none ∧ I ≠ env.locals) (hIl : ∀ i h, St i h → ∃ o, h.get? I = some o)
    (hgo : ∀ i (s' : Shared) v (Q' : Unit → Shared → Prop) E', St i s'.heap → Q' () s' → wpAny (model prog w) A (letOwnedTupleGo target (.ref I) v) Q' E' s')
    (F : Fr h₀ env.locals s₂.heap m₀) (N : News h₀ env.locals s₂.heap news₀) (hnI : ∀ p ∈ news₀, p.1 ≠ I) (hj : J 0 [] news₀)
    (hfp : ∀ b ∈ fp, b = I ∨ ∃ ob, ∀ i outs news h, J i outs news → Fr h₀ env.locals h m₀ → News h₀ env.locals h news → h.get? b = some ob)
    (hasg : ∀ i v C s₁ m₁ (Q' : Unit → Shared → Prop) E', P i v → C ≠ env.locals → h₀.get? C = none → Fr h₀ env.locals s₁.heap m₀ → s₁.heap.Ns C m₁ →
      (∀ h' tk' m', Heap.ExtBut C s₁.heap h' → h'.Ns C m' → T i v m' → Q' () { s₁ with heap := h', toks := tk' }) → wpAny (model prog w) A (assign target (compEnvC scope cl C env) v) Q' E' s₁)
    (hE : ∀ C D e s', Ex C D e s' → notedBy (model prog w) A (compEnvC scope cl C env) (fun e s' => compPost (model prog w) A E none Q (.ref D) C (.error e) s') e s')
    (turn : ∀ i v outs news₁ h tk oI D C oC mC nD, i < n → P i v → J i outs news₁ → NsObj oC mC → T i v mC → (∀ p ∈ news₁, p.1 ≠ I ∧ p.1 ≠ D ∧ p.1 ≠ C) → (∀ p ∈ news₀, p.1 < D) → D < C → I < D →
      Fr h₀ env.locals h m₀ → News h₀ env.locals h ((I, oI) :: (D, W.listOf outs.toArray nD) :: (C, oC) :: news₁) →
      wpAny (model prog w) A (forIn ifs true fun c r => if r = true then do let ok ← isTrue c (compEnvC scope cl C env) (eval c (compEnvC scope cl C env)); pure (ForInStep.yield ok) else pure (ForInStep.yield r)) (fun ok s₃ =>
        if ok = true then wpAny (model prog w) A (eval elt (compEnvC scope cl C env)) (fun y s₄ => MakeEnd h₀ env.locals m₀ [(I, oI), (D, W.listOf outs.toArray nD), (C, oC)] (J (i + 1) (outs ++ [y])) { s₂ with heap := h, toks := tk } s₄) (Ex C D) s₃
        else MakeEnd h₀ env.locals m₀ [(I, oI), (D, W.listOf outs.toArray nD), (C, oC)] (J (i + 1) outs) { s₂ with heap := h, toks := tk } s₃) (Ex C D) { s₂ with heap := h, toks := tk })
    (done : ∀ outs news₁ h tk D nD, J n outs news₁ → Fr h₀ env.locals h m₀ → News h₀ env.locals h ((D, W.listOf outs.toArray nD) :: news₁) → (∀ p ∈ news₁, p.1 ≠ D) → (∀ p ∈ news₀, p.1 < D) → Q (.ref D) { s₂ with heap := h, toks := tk }) :
    wpAny (model prog w) A (newList []) (fun acc s₃ => wpAny (model prog w) A (newFunctionEnv scope env.globals cl [] env.qual none .none (some env)) (fun cenv s₄ =>
      codeAny (model prog w) A (.compStart (.ListComp elt [⟨target, iter, ifs, 0⟩] scope pos) 0 (.ref I) acc { cenv with scope := relabel scope env }) (compPost (model prog w) A E none Q acc cenv.locals) s₄) E s₃) E s₂ := by
  refine wpAny_newObj_type (wpAny_newFunctionEnv hcell (by intro y hy; simp at hy) (fun h₁ hns₁ hsb₁ => ?_) hkind)
  dsimp only at hns₁ hsb₁ ⊢
  generalize hH2 : s₂.heap.push { cls := .type "list", dict := none, data := .seq ([] : List Value).toArray } = H2 at hns₁ hsb₁ ⊢
  have hC : H2.objs.size = s₂.heap.objs.size + 1 := by rw [← hH2, Heap.size_push]
  have hDC : s₂.heap.objs.size < H2.objs.size := by rw [hC]; exact Nat.lt_succ_self _
  have hLD : env.locals < s₂.heap.objs.size := F.ns.lt
  have hnD : ∀ p ∈ news₀, p.1 < s₂.heap.objs.size := fun p hp => Heap.lt_size (N p hp).1
  refine hide ?_
  intro Gq hGq
  obtain ⟨⟨oI₀, hoI₀⟩, hI0, hIL⟩ := hI
  refine hGq ?_
  clear hGq Gq
  have hID : I < s₂.heap.objs.size := Heap.lt_size hoI₀
  have fresh : ∀ a, s₂.heap.objs.size ≤ a → h₀.get? a = none := fun a ha => Heap.get?_none_of_le (Nat.le_trans F.above (Nat.le_trans (Nat.le_of_lt hLD) ha))
  have old : ∀ b o, s₂.heap.get? b = some o → h₁.get? b = some o := fun b o e =>
    hsb₁.extBut b o (Nat.ne_of_lt (Nat.lt_trans (Heap.lt_size e) hDC)) (Heap.get?_push_of_some _ (hH2 ▸ Heap.get?_push_of_some _ e))
  have hacc : h₁.get? s₂.heap.objs.size = some (W.listOf #[] 0) := hsb₁.extBut _ _ (Nat.ne_of_lt hDC) (Heap.get?_push_of_some _ (hH2 ▸ Heap.get?_push_size _ rfl))
  have hst₁ : St 0 h₁ := Wk.frame _ _ _ hst fun b _ o e => old b o e
  obtain ⟨oC₀, hoC₀, hnC₀⟩ := nsObj_of hns₁
  generalize hD : s₂.heap.objs.size = D at hDC hLD hnD hID fresh hacc ⊢
  generalize hCC : H2.objs.size = C at hDC hns₁ hoC₀ ⊢
  have hC0 : h₀.get? C = none := fresh C (Nat.le_of_lt hDC)
  have hD0 : h₀.get? D = none := fresh D (Nat.le_refl _)
  have hCL : C ≠ env.locals := Nat.ne_of_gt (Nat.lt_trans hLD hDC)
  have hDL : D ≠ env.locals := Nat.ne_of_gt hLD
  have hIC : I ≠ C := Nat.ne_of_lt (Nat.lt_trans hID hDC)
  have loop : ∀ s₃ : Shared, s₃ = { s₂ with heap := h₁, toks := s₂.toks + ([] : List (Str × Value)).length } →
      codeAny (model prog w) A (.compLoop (.ListComp elt [⟨target, iter, ifs, 0⟩] scope pos) 0 (.ref I) (.ref D) (compEnvC scope cl C env)) (compPost (model prog w) A E none Q (.ref D) C) s₃ := by
    rintro s₃ rfl
    refine compLoop_any
      (fun k s' => ∃ h' tk outs news' nD oC mC i, s' = { s₂ with heap := h', toks := tk } ∧ St i h' ∧ Fr h₀ env.locals h' m₀ ∧ h'.get? D = some (W.listOf outs.toArray nD) ∧ h'.get? C = some oC ∧ NsObj oC mC ∧ News h₀ env.locals h' news' ∧
        (∀ p ∈ news', p.1 ≠ I ∧ p.1 ≠ D ∧ p.1 ≠ C) ∧ J i outs news' ∧ outs.length ≤ i ∧ i ≤ n ∧ k = n + 1 - i) ?_ (n + 1)
      ⟨h₁, _, [], news₀, 0, oC₀, _, 0, rfl, hst₁, ⟨F.ns.keeps old, fun b o e => old b o (F.keep b o e), F.above⟩, hacc, hoC₀, hnC₀, (fun p hp => ⟨old _ _ (N p hp).1, (N p hp).2⟩),
        (fun p hp => ⟨hnI p hp, Nat.ne_of_lt (hnD p hp), Nat.ne_of_lt (Nat.lt_trans (hnD p hp) hDC)⟩), hj, Nat.le_refl _, Nat.zero_le _, rfl⟩
    rintro k s' hq0
    refine hide ?_
    intro Gq hGq
    obtain ⟨h', tk, outs, news', nD, oC, mC, i, rfl, hst', F', hD', hC', hnC, N', hne, hJ, hlen, hi, rfl⟩ := hq0
    refine hGq ?_
    clear hGq Gq
    have hIout : ∀ b o, h'.get? b = some o → b ≠ I → b ∉ wr := fun b o _ hb q => hb (hwr b q)
    by_cases hlt : i < n
    · refine Wk.item i _ _ _ hlt hst' fun v h₂ tk₂ hP hst₂ hk₂ => ?_
      have F₂ : Fr h₀ env.locals h₂ m₀ := ⟨F'.ns.at' fun o e => hk₂ _ o (fun q => hIL (hwr _ q).symm) e, fun b o e => hk₂ b o (fun q => by rw [hwr b q, hI0] at e; cases e) (F'.keep b o e), F'.above⟩
      refine hgo (i + 1) _ v _ _ hst₂ ?_
      have hC₂ : h₂.get? C = some oC := hk₂ C oC (fun q => hIC (hwr C q).symm) hC'
      have hD₂ : h₂.get? D = some (W.listOf outs.toArray nD) := hk₂ D _ (fun q => Nat.ne_of_lt hID (hwr D q).symm) hD'
      have N₂ : News h₀ env.locals h₂ news' := fun p hp => ⟨hk₂ _ _ (fun q => (hne p hp).1 (hwr _ q)) (N' p hp).1, (N' p hp).2⟩
      obtain ⟨oI, hoI⟩ := hIl (i + 1) h₂ hst₂
      refine hasg i v C _ mC _ _ hP hCL hC0 F₂ (hnC.ns hC₂) fun h₃ tk₃ m₃ hx₃ hn₃ hT => ?_
      obtain ⟨oC₃, hC₃, hnC₃⟩ := nsObj_of hn₃
      have F₃ : Fr h₀ env.locals h₃ m₀ := ⟨F₂.ns.at' fun o e => hx₃ _ o (Ne.symm hCL) e, fun b o e => hx₃ b o (fun q => by rw [q, hC0] at e; cases e) (F₂.keep b o e), F₂.above⟩
      have hI₃ : h₃.get? I = some oI := hx₃ I oI hIC hoI
      have hD₃ : h₃.get? D = some (W.listOf outs.toArray nD) := hx₃ D _ (Nat.ne_of_lt hDC) hD₂
      have N₃ : News h₀ env.locals h₃ ((I, oI) :: (D, W.listOf outs.toArray nD) :: (C, oC₃) :: news') := by
        intro p hp
        rcases List.mem_cons.mp hp with rfl | hp
        · exact ⟨hI₃, hIL, hI0⟩
        · rcases List.mem_cons.mp hp with rfl | hp
          · exact ⟨hD₃, hDL, hD0⟩
          · rcases List.mem_cons.mp hp with rfl | hp
            · exact ⟨hC₃, hCL, hC0⟩
            · exact ⟨hx₃ _ _ (hne p hp).2.2 (N₂ p hp).1, (N₂ p hp).2⟩
      have fin : ∀ outs' h₄ tk₄ news₄ nD', outs'.length ≤ i + 1 → Fr h₀ env.locals h₄ m₀ → h₄.get? I = some oI → h₄.get? D = some (W.listOf outs'.toArray nD') → h₄.get? C = some oC₃ → News h₀ env.locals h₄ news₄ → (∀ p ∈ news₄, p.1 ≠ I ∧ p.1 ≠ D ∧ p.1 ≠ C) → J (i + 1) outs' news₄ →
          ∃ m, m < n + 1 - i ∧ ∃ h' tk outs news' nD oC mC j, ({ s₂ with heap := h₄, toks := tk₄ } : Shared) = { s₂ with heap := h', toks := tk } ∧ St j h' ∧ Fr h₀ env.locals h' m₀ ∧ h'.get? D = some (W.listOf outs.toArray nD) ∧ h'.get? C = some oC ∧ NsObj oC mC ∧ News h₀ env.locals h' news' ∧
            (∀ p ∈ news', p.1 ≠ I ∧ p.1 ≠ D ∧ p.1 ≠ C) ∧ J j outs news' ∧ outs.length ≤ j ∧ j ≤ n ∧ m = n + 1 - j := by
        intro outs' h₄ tk₄ news₄ nD' hl₄ F₄ hI₄ hD₄ hC₄ N₄ hne₄ hJ₄
        refine ⟨n + 1 - (i + 1), by omega, h₄, tk₄, outs', news₄, nD', oC₃, m₃, i + 1, rfl, Wk.frame _ _ _ hst₂ fun b hb o e => ?_, F₄, hD₄, hC₄, hnC₃, N₄, hne₄, hJ₄, hl₄, hlt, rfl⟩
        rcases hfp b hb with rfl | ⟨ob, hob⟩
        · rw [hoI] at e; cases e; exact hI₄
        · have e1 := hob i outs news' h₂ hJ F₂ N₂
          rw [e] at e1; cases e1
          exact hob (i + 1) outs' news₄ h₄ hJ₄ F₄ N₄
      have hown : ∀ {news₄ : List (Addr × Obj)}, (∀ p ∈ news₄, ∀ q ∈ [(I, oI), (D, W.listOf outs.toArray nD), (C, oC₃)], p.1 ≠ q.1) → ∀ p ∈ news₄, p.1 ≠ I ∧ p.1 ≠ D ∧ p.1 ≠ C := fun h p hp =>
        ⟨h p hp _ (.head _), h p hp _ (.tail _ (.head _)), h p hp _ (.tail _ (.tail _ (.head _)))⟩
      refine wpAny_mono (turn i v outs news' h₃ tk₃ oI D C oC₃ m₃ nD hlt hP hJ hnC₃ hT hne hnD hDC hID F₃ N₃) (fun ok s₃ hok => ?_) fun e s' he => hE C D e s' he
      cases ok with
      | false =>
        simp only [Bool.false_eq_true, if_false] at hok ⊢
        refine hide ?_
        intro Gq hGq
        obtain ⟨h₄, tk₄, news₄, rfl, F₄, N₄, ne₄, J₄⟩ := hok
        refine hGq ?_
        clear hGq Gq
        exact fin outs h₄ tk₄ news₄ nD (Nat.le_succ_of_le hlen) F₄ (N₄ _ (.head _)).1 (N₄ _ (.tail _ (.head _))).1 (N₄ _ (.tail _ (.tail _ (.head _)))).1 (fun p hp => N₄ p (.tail _ (.tail _ (.tail _ hp)))) (hown ne₄) J₄
      | true =>
        simp only [if_true] at hok ⊢
        refine wpAny_mono hok (fun y s₄ h₄ => ?_) fun e s' he => hE C D e s' he
        refine hide ?_
        intro Gq hGq
        obtain ⟨h₄, tk₄, news₄, rfl, F₄, N₄, ne₄, J₄⟩ := h₄
        refine hGq ?_
        clear hGq Gq
        have ne₄' := hown ne₄
        refine append_at (its := outs.toArray) (n := nD) (hsz := by rw [List.size_toArray]; omega) (N₄ _ (.tail _ (.head _))).1 fun h₅ hs₅ ho₅ => ?_
        rw [List.push_toArray] at ho₅
        refine fin (outs ++ [y]) h₅ _ news₄ (nD + 1) (by rw [List.length_append, List.length_singleton]; omega) (F₄.change hs₅ hDL hD0) ?_ ho₅ ?_ (fun p hp => ⟨(hs₅.2 _ (ne₄' p hp).2.1).trans (N₄ p (.tail _ (.tail _ (.tail _ hp)))).1, (N₄ p (.tail _ (.tail _ (.tail _ hp)))).2⟩) ne₄' J₄
        · exact (hs₅.2 _ (Nat.ne_of_lt hID)).trans (N₄ _ (.head _)).1
        · exact (hs₅.2 _ (Nat.ne_of_gt hDC)).trans (N₄ _ (.tail _ (.tail _ (.head _)))).1
    · have hin : i = n := by omega
      subst hin
      refine Wk.done _ _ _ hst' fun h₂ tk₂ hk₂ => ?_
      have F₂ : Fr h₀ env.locals h₂ m₀ := ⟨F'.ns.at' fun o e => hk₂ _ o (fun q => hIL (hwr _ q).symm) e, fun b o e => hk₂ b o (fun q => by rw [hwr b q, hI0] at e; cases e) (F'.keep b o e), F'.above⟩
      have hC₂ : h₂.get? C = some oC := hk₂ C oC (fun q => hIC (hwr C q).symm) hC'
      have hD₂ : h₂.get? D = some (W.listOf outs.toArray nD) := hk₂ D _ (fun q => Nat.ne_of_lt hID (hwr D q).symm) hD'
      have N₂ : News h₀ env.locals h₂ news' := fun p hp => ⟨hk₂ _ _ (fun q => (hne p hp).1 (hwr _ q)) (N' p hp).1, (N' p hp).2⟩
      refine ⟨mC, hnC.ns hC₂, fun h₃ hs₃ => ?_⟩
      refine done outs news' h₃ tk₂ D nD hJ ⟨F₂.ns.at' fun o e => (hs₃.2 _ (Ne.symm hCL)).trans e, fun b o e => (hs₃.2 b fun q => by rw [q, hC0] at e; cases e).trans (F₂.keep b o e), F₂.above⟩ ?_ (fun p hp => (hne p hp).2.1) hnD
      intro p hp
      rcases List.mem_cons.mp hp with rfl | hp
      · exact ⟨(hs₃.2 _ (Nat.ne_of_lt hDC)).trans hD₂, hDL, hD0⟩
      · exact ⟨(hs₃.2 _ (hne p hp).2.2).trans (N₂ p hp).1, (N₂ p hp).2⟩
  exact codeAny_compStart_list (loop _ rfl) (Wk.self 0 _ _ _ hst₁ (loop _ rfl))
end
section
variable {prog : Program} {w : World} {A : Around} {E : Value → Shared → Prop} {env : Env} {h₀ : Heap} {m₀ : Str → Option Value}
theorem asg_name {x : Str} {px : Pos} {scope : Scope} {cl : List (Str × Addr)} {v : Value} {C : Addr} {s₁ : Shared} {m₁ : Str → Option Value} {Q' : Unit → Shared → Prop} {E' : Value → Shared → Prop}
    (hkind : scope.kind = .function) (hx : scope.names.lookup x = some .local) (hn : s₁.heap.Ns C m₁)
    (h : ∀ h' tk' m', Heap.ExtBut C s₁.heap h' → h'.Ns C m' → m' x = some v → Q' () { s₁ with heap := h', toks := tk' }) :
    wpAny (model prog w) A (assign (.Name x px) (compEnvC scope cl C env) v) Q' E' s₁ :=
  wpAny_assign_Name (wpAny_storeName_local (env := compEnvC scope cl C env) (lookup_relabel_local hx) hn (fun h₂ hn₂ hs₂ => h h₂ _ _ hs₂.extBut hn₂ (by simp)) (by simp [compEnvC, relabel, hkind]))

theorem asg_pair {x y : Str} {px py pos : Pos} {k : Nat} {scope : Scope} {cl : List (Str × Addr)} {v₁ v₂ : Value} {C a : Addr} {s₁ : Shared} {m₁ : Str → Option Value} {Q' : Unit → Shared → Prop} {E' : Value → Shared → Prop}
    (hh : A.handled = none) (hkind : scope.kind = .function) (hx : scope.names.lookup x = some .local) (hy : scope.names.lookup y = some .local) (hxy : x ≠ y) (hn : s₁.heap.Ns C m₁) (ht : IsTup s₁.heap a #[v₁, v₂])
    (h : ∀ h' tk' m', Heap.ExtBut C s₁.heap h' → h'.Ns C m' → m' x = some v₁ → m' y = some v₂ → Q' () { s₁ with heap := h', toks := tk' }) :
    wpAny (model prog w) A (assign (.Tuple [.Name x px, .Name y py] k pos) (compEnvC scope cl C env) (.ref a)) Q' E' s₁ := by
  refine assign_Tuple_tuple hh ht rfl rfl fun h₂ he₂ => ?_
  have hn₂ : h₂.Ns C m₁ := hn.at' fun o e => he₂ _ o (Nat.ne_of_lt (Heap.lt_size e)) e
  have kb : (((compEnvC scope cl C env).scope.kind == .class || ((compEnvC scope cl C env).scope.kind == .module && (compEnvC scope cl C env).locals != (compEnvC scope cl C env).globals)) = false) := by simp [compEnvC, relabel, hkind]
  refine assignInOrder_cons (wpAny_assign_Name (wpAny_storeName_local (env := compEnvC scope cl C env) (lookup_relabel_local hx) hn₂ (fun h₃ hn₃ hs₃ => ?_) kb))
  refine assignInOrder_cons (wpAny_assign_Name (wpAny_storeName_local (env := compEnvC scope cl C env) (lookup_relabel_local hy) hn₃ (fun h₄ hn₄ hs₄ => ?_) kb))
  refine assignInOrder_nil (h h₄ _ _ (fun b o hb e => hs₄.extBut b o hb (hs₃.extBut b o hb (he₂ b o (Nat.ne_of_lt (Heap.lt_size e)) e))) hn₄ ?_ ?_)
  · show (if x = y then some v₂ else if x = x then some v₁ else m₁ x) = some v₁
    rw [if_neg hxy, if_pos rfl]
  · show (if y = y then some v₂ else _) = some v₂
    rw [if_pos rfl]

/-- a list made from a list -/
theorem comp_list {elt target iter : Expr} {ifs : List Expr} {scope : Scope} {cl : List (Str × Addr)} {pos : Pos} {s : Shared} {l : Addr} {vs : List Value} {news₀ : List (Addr × Obj)} {Q : Value → Shared → Prop}
    (J : Nat → List Value → List (Addr × Obj) → Prop) (T : Nat → Value → (Str → Option Value) → Prop) (Ex : Addr → Addr → Value → Shared → Prop)
    (hh : A.handled = none) (hsz : vs.length ≤ sizeLine) (hcell : ∀ y ∈ scope.names, y.2 ≠ .cell) (hkind : scope.kind = .function)
    (hls : s.heap.IsList l vs.toArray) (F : Fr h₀ env.locals s.heap m₀) (N : News h₀ env.locals s.heap news₀) (hj : J 0 [] news₀)
    (hl : ∃ ob, ∀ i outs news h, J i outs news → Fr h₀ env.locals h m₀ → News h₀ env.locals h news → h.get? l = some ob)
    (hasg : ∀ i v C s₁ m₁ (Q' : Unit → Shared → Prop) E', vs[i]? = some v → C ≠ env.locals → h₀.get? C = none → Fr h₀ env.locals s₁.heap m₀ → s₁.heap.Ns C m₁ →
      (∀ h' tk' m', Heap.ExtBut C s₁.heap h' → h'.Ns C m' → T i v m' → Q' () { s₁ with heap := h', toks := tk' }) → wpAny (model prog w) A (assign target (compEnvC scope cl C env) v) Q' E' s₁)
    (hE : ∀ C D e s', Ex C D e s' → notedBy (model prog w) A (compEnvC scope cl C env) (fun e s' => compPost (model prog w) A E none Q (.ref D) C (.error e) s') e s')
    (turn : ∀ i v outs news₁ h tk I oI D C oC mC nD, i < vs.length → vs[i]? = some v → J i outs news₁ → NsObj oC mC → T i v mC → (∀ p ∈ news₁, p.1 ≠ I ∧ p.1 ≠ D ∧ p.1 ≠ C) → (∀ p ∈ news₀, p.1 < I) → D < C → I < D →
      Fr h₀ env.locals h m₀ → News h₀ env.locals h ((I, oI) :: (D, PySem.W.listOf outs.toArray nD) :: (C, oC) :: news₁) →
      wpAny (model prog w) A (forIn ifs true fun c r => if r = true then do let ok ← isTrue c (compEnvC scope cl C env) (eval c (compEnvC scope cl C env)); pure (ForInStep.yield ok) else pure (ForInStep.yield r)) (fun ok s₃ =>
        if ok = true then wpAny (model prog w) A (eval elt (compEnvC scope cl C env)) (fun y s₄ => MakeEnd h₀ env.locals m₀ [(I, oI), (D, PySem.W.listOf outs.toArray nD), (C, oC)] (J (i + 1) (outs ++ [y])) { s with heap := h, toks := tk } s₄) (Ex C D) s₃
        else MakeEnd h₀ env.locals m₀ [(I, oI), (D, PySem.W.listOf outs.toArray nD), (C, oC)] (J (i + 1) outs) { s with heap := h, toks := tk } s₃) (Ex C D) { s with heap := h, toks := tk })
    (done : ∀ outs news₁ h tk D nD, J vs.length outs news₁ → Fr h₀ env.locals h m₀ → News h₀ env.locals h ((D, PySem.W.listOf outs.toArray nD) :: news₁) → (∀ p ∈ news₁, p.1 ≠ D) → (∀ p ∈ news₀, p.1 < D) → Q (.ref D) { s with heap := h, toks := tk }) :
    wpAny (model prog w) A (pyIter (.ref l)) (fun it s₂ => wpAny (model prog w) A (newList []) (fun acc s₃ => wpAny (model prog w) A (newFunctionEnv scope env.globals cl [] env.qual none .none (some env)) (fun cenv s₄ =>
      codeAny (model prog w) A (.compStart (.ListComp elt [⟨target, iter, ifs, 0⟩] scope pos) 0 it acc { cenv with scope := relabel scope env }) (compPost (model prog w) A E none Q acc cenv.locals) s₄) E s₃) E s₂) E s := by
  refine wpAny_pyIter_list hls ?_
  obtain ⟨ob, hob⟩ := hl
  have hl0 := hob 0 [] news₀ s.heap hj F N
  have hne : l ≠ s.heap.objs.size := Nat.ne_of_lt (Heap.lt_size hl0)
  have hnI : ∀ p ∈ news₀, p.1 < s.heap.objs.size := fun p hp => Heap.lt_size (N p hp).1
  have Wk := Walks.list (prog := prog) (w := w) hh s.heap.objs.size l hne vs.toArray
  have hlen : vs.toArray.size = vs.length := by simp
  rw [hlen] at Wk
  refine comp_my J T Ex Wk (fun b hb => by simpa using hb) hsz hcell hkind ⟨⟨_, Heap.get?_push_size _ rfl, rfl, rfl⟩, hls.at fun o e => Heap.get?_push_of_some _ e⟩
    ⟨⟨_, Heap.get?_push_size _ rfl⟩, next_is_new F, Nat.ne_of_gt F.ns.lt⟩ (fun i h st => let ⟨o, ho, _⟩ := st.1; ⟨o, ho⟩) (fun i s' v Q' E' st hQ' => letGo_listiter st.1 hQ') (F.push _)
    (fun p hp => ⟨Heap.get?_push_of_some _ (N p hp).1, (N p hp).2⟩) (fun p hp => Nat.ne_of_lt (hnI p hp)) hj ?_ (fun i v C s₁ m₁ Q' E' hP hC hC0 F' hn k => hasg i v C s₁ m₁ Q' E' (by simpa using hP) hC hC0 F' hn k) hE ?_ done
  · intro b hb
    rcases List.mem_cons.mp hb with rfl | hb
    · exact .inl rfl
    · exact .inr ⟨ob, by rw [List.mem_singleton.mp hb]; exact hob⟩
  · intro i v outs news₁ h tk oI D C oC mC nD hi hP hJ hnC hT hne' _ hDC hID F' N'
    exact turn i v outs news₁ h tk _ oI D C oC mC nD hi (by simpa using hP) hJ hnC hT hne' hnI hDC hID F' N'
end

/-- a list made from a text's signs -/
theorem comp_str {prog : Program} {w : World} {A : Around} {E : Value → Shared → Prop} {env : Env} {h₀ : Heap} {m₀ : Str → Option Value} {elt iter : Expr} {x : Str} {px : Pos} {ifs : List Expr} {scope : Scope} {cl : List (Str × Addr)} {pos : Pos} {s : Shared} {y : Str} {ty : Tok} {news₀ : List (Addr × Obj)} {Q : Value → Shared → Prop}
    (J : Nat → List Value → List (Addr × Obj) → Prop)
    (hh : A.handled = none) (ha : y.cps.all (· < 128) = true) (hsz : y.cps.size ≤ sizeLine) (hcell : ∀ y ∈ scope.names, y.2 ≠ .cell) (hkind : scope.kind = .function) (hx : scope.names.lookup x = some .local)
    (F : Fr h₀ env.locals s.heap m₀) (N : News h₀ env.locals s.heap news₀) (hj : J 0 [] news₀)
    (turn : ∀ i c u outs news₁ h tk I oI D C oC mC nD, y.cps[i]? = some c → J i outs news₁ → NsObj oC mC → mC x = some (.str ⟨#[c]⟩ u) → (∀ p ∈ news₁, p.1 ≠ I ∧ p.1 ≠ D ∧ p.1 ≠ C) → (∀ p ∈ news₀, p.1 < I) → D < C → I < D →
      Fr h₀ env.locals h m₀ → News h₀ env.locals h ((I, oI) :: (D, PySem.W.listOf outs.toArray nD) :: (C, oC) :: news₁) →
      wpAny (model prog w) A (forIn ifs true fun c r => if r = true then do let ok ← isTrue c (compEnvC scope cl C env) (eval c (compEnvC scope cl C env)); pure (ForInStep.yield ok) else pure (ForInStep.yield r)) (fun ok s₃ =>
        if ok = true then wpAny (model prog w) A (eval elt (compEnvC scope cl C env)) (fun y s₄ => MakeEnd h₀ env.locals m₀ [(I, oI), (D, PySem.W.listOf outs.toArray nD), (C, oC)] (J (i + 1) (outs ++ [y])) { s with heap := h, toks := tk } s₄) (fun _ _ => False) s₃
        else MakeEnd h₀ env.locals m₀ [(I, oI), (D, PySem.W.listOf outs.toArray nD), (C, oC)] (J (i + 1) outs) { s with heap := h, toks := tk } s₃) (fun _ _ => False) { s with heap := h, toks := tk })
    (done : ∀ outs news₁ h tk D nD, J y.cps.size outs news₁ → Fr h₀ env.locals h m₀ → News h₀ env.locals h ((D, PySem.W.listOf outs.toArray nD) :: news₁) → (∀ p ∈ news₁, p.1 ≠ D) → (∀ p ∈ news₀, p.1 < D) → Q (.ref D) { s with heap := h, toks := tk }) :
    wpAny (model prog w) A (pyIter (.str y ty)) (fun it s₂ => wpAny (model prog w) A (newList []) (fun acc s₃ => wpAny (model prog w) A (newFunctionEnv scope env.globals cl [] env.qual none .none (some env)) (fun cenv s₄ =>
      codeAny (model prog w) A (.compStart (.ListComp elt [⟨.Name x px, iter, ifs, 0⟩] scope pos) 0 it acc { cenv with scope := relabel scope env }) (compPost (model prog w) A E none Q acc cenv.locals) s₄) E s₃) E s₂) E s := by
  refine wpAny_pyIter_ascii ha ?_
  have hnI : ∀ p ∈ news₀, p.1 < s.heap.objs.size := fun p hp => Heap.lt_size (N p hp).1
  have Wk := Walks.strAscii (prog := prog) (w := w) hh s.heap.objs.size y ty
  refine comp_my J (fun i v m' => m' x = some v) (fun _ _ _ _ => False) Wk (fun b hb => by simpa using hb) hsz hcell hkind ⟨_, Heap.get?_push_size _ rfl, rfl, rfl⟩
    ⟨⟨_, Heap.get?_push_size _ rfl⟩, next_is_new F, Nat.ne_of_gt F.ns.lt⟩ (fun i h st => let ⟨o, ho, _⟩ := st; ⟨o, ho⟩) (fun i s' v Q' E' st hQ' => wpAny_pure hQ') (F.push _)
    (fun p hp => ⟨Heap.get?_push_of_some _ (N p hp).1, (N p hp).2⟩) (fun p hp => Nat.ne_of_lt (hnI p hp)) hj ?_ (fun i v C s₁ m₁ Q' E' hP hC hC0 F' hn k => asg_name hkind hx hn k) (fun _ _ _ _ x => x.elim) ?_ done
  · intro b hb
    exact .inl (List.mem_singleton.mp hb)
  · rintro i v outs news₁ h tk oI D C oC mC nD hi hq0 hJ hnC hT hne' _ hDC hID F' N'
    refine hide ?_
    intro Gq hGq
    obtain ⟨c, u, hc, rfl⟩ := hq0
    refine hGq ?_
    clear hGq Gq
    exact turn i c u outs news₁ h tk _ oI D C oC mC nD hc hJ hnC hT hne' hnI hDC hID F' N'
theorem nameG_B {M : Model} {A : Around} {E : Value → Shared → Prop} {s : Shared} {h₀ : Heap} {L : Addr} {m : Str → Option Value} {env : Env} {K : Frag} {mg mb : Str → Option Value} {p : Program} {loose : List Str} {mean : ExcName → Option Value} {x : Str} {pos : Pos} {v : Value} {Q : Value → Shared → Prop}
    (F : Fr h₀ L s.heap m) (X : K.In h₀) (T : Top p loose mean mg mb h₀) (e : nsIn K mainGlobals x = some none) (hv : bootBuiltins x = some v) (hn : x ≠ "__name__") (h : Q v s)
    (hg : env.globals = mainGlobals) (hb : env.builtins = builtinsNs) (hk : env.scope.kind = .function) (hx : env.kindOf x = some .globalImplicit) (hd : (x == ("__debug__" : Str)) = false) :
    wpAny M A (eval (.Name x pos) env) Q E s :=
  Name_function_global hk hx (loadGlobal_builtin (env := env) (by rw [hg]; exact T.g.keeps F.keep) (mg_none_of X T.g e) (by rw [hb]; exact T.b.keeps F.keep) ((T.builtins x hn).trans hv) h) hd
theorem eval_comp {prog : Program} {w : World} {A : Around} {E : Value → Shared → Prop} {env : Env} {s : Shared} {elt target iter : Expr} {ifs : List Expr} {scope : Scope} {cl : List (Str × Addr)} {pos : Pos} {Q : Value → Shared → Prop}
    (hclos : closureFor scope env = pure cl) (hkind : scope.kind = .function) (hnames : ∀ x ∈ scope.names, x.2 = .local → scope.names.lookup x.1 = some .local)
    (h : wpAny (model prog w) A (eval iter env) (fun xv s₁ => wpAny (model prog w) A (pyIter xv) (fun it s₂ => wpAny (model prog w) A (newList []) (fun acc s₃ => wpAny (model prog w) A (newFunctionEnv scope env.globals cl [] env.qual none .none (some env)) (fun cenv s₄ =>
      codeAny (model prog w) A (.compStart (.ListComp elt [⟨target, iter, ifs, 0⟩] scope pos) 0 it acc { cenv with scope := relabel scope env }) (compPost (model prog w) A E none Q acc cenv.locals) s₄) E s₃) E s₂) E s₁) E s)
    (hs : ∀ x, foldedSetIterable iter env x = pure x := by intro _; rfl) : wpAny (model prog w) A (eval (.ListComp elt [⟨target, iter, ifs, 0⟩] scope pos) env) Q E s := by
  rw [eval_ListComp]
  exact wpAny_comprehension_free (use := none) rfl hs hclos hkind hnames h

theorem MakeEnd.go {h₀ : Heap} {L : Addr} {m₀ : Str → Option Value} {own led : List (Addr × Obj)} {J : List (Addr × Obj) → Prop} {s₁ : Shared} {h' : Heap} {tk' : Nat} (news' : List (Addr × Obj))
    (F : Fr h₀ L h' m₀) (N : News h₀ L h' led) (h1 : ∀ p ∈ own, p ∈ led) (h2 : ∀ p ∈ news', p ∈ led) (h3 : ∀ p ∈ news', ∀ q ∈ own, p.1 ≠ q.1) (j : J news') :
    MakeEnd h₀ L m₀ own J s₁ { s₁ with heap := h', toks := tk' } :=
  ⟨h', tk', news', rfl, F, fun p hp => N p ((List.mem_append.mp hp).elim (h1 p) (h2 p)), h3, j⟩
theorem off3 {I D C : Addr} {oI oD oC : Obj} {news : List (Addr × Obj)} (h : ∀ p ∈ news, p.1 ≠ I ∧ p.1 ≠ D ∧ p.1 ≠ C) : ∀ p ∈ news, ∀ q ∈ [(I, oI), (D, oD), (C, oC)], p.1 ≠ q.1 := by
  intro p hp q hq
  rcases List.mem_cons.mp hq with rfl | hq
  · exact (h p hp).1
  · rcases List.mem_cons.mp hq with rfl | hq
    · exact (h p hp).2.1
    · rw [List.mem_singleton.mp hq]; exact (h p hp).2.2
theorem off3_cons {I D C a : Addr} {oI oD oC o : Obj} {news : List (Addr × Obj)} (h1 : @LT.lt Nat _ I a) (h2 : @LT.lt Nat _ D a) (h3 : @LT.lt Nat _ C a) (h : ∀ p ∈ news, p.1 ≠ I ∧ p.1 ≠ D ∧ p.1 ≠ C) :
    ∀ p ∈ (a, o) :: news, ∀ q ∈ [(I, oI), (D, oD), (C, oC)], p.1 ≠ q.1 :=
  off3 fun p hp => by
    rcases List.mem_cons.mp hp with rfl | hp
    · exact ⟨Nat.ne_of_gt h1, Nat.ne_of_gt h2, Nat.ne_of_gt h3⟩
    · exact h p hp

theorem led_hide {P : Prop} {h₀ h : Heap} {L : Addr} {news : List (Addr × Obj)} (N : News h₀ L h news) (k : ∀ led, led = news → News h₀ L h led → P) : P := k news rfl N
theorem map_hide {P : Prop} {h₀ h : Heap} {L : Addr} {m : Str → Option Value} (F : Fr h₀ L h m) (k : ∀ m', m' = m → Fr h₀ L h m' → P) : P := k m rfl F

/-- two lists, item by item -/
inductive All2 {α β : Type} (R : α → β → Prop) : List α → List β → Prop
  | nil : All2 R [] []
  | cons {a b as bs} : R a b → All2 R as bs → All2 R (a :: as) (b :: bs)
namespace All2
variable {α β : Type} {R S : α → β → Prop}
theorem length {as : List α} {bs : List β} (h : All2 R as bs) : as.length = bs.length := by
  induction h with
  | nil => rfl
  | cons _ _ ih => simp [ih]
theorem mono {as : List α} {bs : List β} (h : All2 R as bs) (k : ∀ a b, R a b → S a b) : All2 S as bs := by
  induction h with
  | nil => exact .nil
  | cons x _ ih => exact .cons (k _ _ x) ih
theorem snoc {as : List α} {bs : List β} (h : All2 R as bs) {a : α} {b : β} (x : R a b) : All2 R (as ++ [a]) (bs ++ [b]) := by
  induction h with
  | nil => exact .cons x .nil
  | cons y _ ih => exact .cons y ih
theorem get {as : List α} {bs : List β} (h : All2 R as bs) : ∀ {i : Nat} {a : α}, as[i]? = some a → ∃ b, bs[i]? = some b ∧ R a b := by
  induction h with
  | nil => intro i a e; cases e
  | cons x _ ih =>
    intro i a e
    cases i with
    | zero => cases e; exact ⟨_, rfl, x⟩
    | succ i => exact ih e
theorem take {as : List α} {bs : List β} (h : All2 R as bs) : ∀ i, All2 R (as.take i) (bs.take i) := by
  induction h with
  | nil => intro i; simp; exact .nil
  | cons x _ ih =>
    intro i
    cases i with
    | zero => exact .nil
    | succ i => exact .cons x (ih i)
end All2
theorem take_snoc {α : Type} {l : List α} {i : Nat} {a : α} (h : l[i]? = some a) : l.take (i + 1) = l.take i ++ [a] := by rw [List.take_add_one, h]; rfl

abbrev tupObj (vs : Array Value) : Obj := { cls := .type "tuple", data := .seq vs }
/-- an order as it lies: a kind, a row of texts -/
def OrdAt (h : Heap) (v : Value) (o : Int × List Str) : Prop := ∃ a t r rv, v = .ref a ∧ IsTup h a #[.int o.1 t, .ref r] ∧ h.IsList r rv.toArray ∧ StrsAre rv o.2
/-- a word as it lies -/
def WordAt (h : Heap) (v : Value) (o : Int × Str) : Prop := ∃ a t u, v = .ref a ∧ IsTup h a #[.int o.1 t, .str o.2 u]
/-- a word of the ledger -/
def WordIn (news : List (Addr × Obj)) (v : Value) (o : Int × Str) : Prop := ∃ a t u, v = .ref a ∧ (a, tupObj #[.int o.1 t, .str o.2 u]) ∈ news
def ListAt {α : Type} (h : Heap) (R : Heap → Value → α → Prop) (v : Value) (xs : List α) : Prop := ∃ l vs, v = .ref l ∧ h.IsList l vs.toArray ∧ All2 (R h) vs xs
theorem OrdAt.keeps {h h' : Heap} {v : Value} {o : Int × List Str} (x : OrdAt h v o) (k : ∀ b o, h.get? b = some o → h'.get? b = some o) : OrdAt h' v o :=
  let ⟨a, t, r, rv, e, h1, h2, h3⟩ := x; ⟨a, t, r, rv, e, IsTup.keeps h1 k, h2.at (k _), h3⟩
theorem WordAt.keeps {h h' : Heap} {v : Value} {o : Int × Str} (x : WordAt h v o) (k : ∀ b o, h.get? b = some o → h'.get? b = some o) : WordAt h' v o :=
  let ⟨a, t, u, e, h1⟩ := x; ⟨a, t, u, e, IsTup.keeps h1 k⟩
theorem WordIn.at {h₀ h : Heap} {L : Addr} {news : List (Addr × Obj)} {v : Value} {o : Int × Str} (x : WordIn news v o) (N : News h₀ L h news) : WordAt h v o :=
  let ⟨a, t, u, e, h1⟩ := x; ⟨a, t, u, e, N.isTup h1⟩
theorem WordIn.mono {news news' : List (Addr × Obj)} {v : Value} {o : Int × Str} (x : WordIn news v o) (k : ∀ p ∈ news, p ∈ news') : WordIn news' v o :=
  let ⟨a, t, u, e, h1⟩ := x; ⟨a, t, u, e, k _ h1⟩

/-- the word of an order -/
noncomputable def wordOf (o : Int × List Str) : Int × Str := (o.1, if o.1 = 0 then Str.join (Str.ofString "/") o.2 else Str.join (Str.ofString "") o.2)
/-- an order that is not too long -/
def Short (o : Int × List Str) : Prop := (o.2.map (·.length)).sum ≤ 100 ∧ o.2.length ≤ 100

/-- entering a def that holds cells, all that stands kept as it stands -/
theorem enterC0 {prog : Program} {w : World} {A A₀ : Around} {s : Shared} {K : Frag} {L : Addr} {h₀ base : Heap} {m mg mb : Str → Option Value} {p : Program} {loose : List Str} {mean : ExcName → Option Value}
    {env : Env} {outer : List Env} {R : Result → Shared → Prop} {name qual : Str} {params : Arguments} {body : List Stmt} {scope : Scope} {dV kV doc pm cdv ct oc : Value} {an od : Option Addr} {osl : Array (Option Value)} {f : Addr} {args : Args} {binds : List (Str × Value)}
    (B : Below A₀ base outer h₀) (F : Fr h₀ L s.heap m) (X₀ : K.In h₀) (T : Top p loose mean mg mb h₀) (hA : A.frames = some (env :: outer)) (hf : env.frame = some L) (hke : env.scope.kind = .function)
    (ho : K.lookup f = some ⟨oc, od, .func (fnOf name qual params body scope dV kV doc pm an cdv ct), osl⟩) (hcd : codeIn K cdv qual = true) (hroom : A.depth < recursionLimit)
    (hbind : BindsTo s (fnOf name qual params body scope dV kV doc pm an cdv ct) args binds) (hkind : (binds.all fun y => scope.names.lookup y.1 == some .local || scope.names.lookup y.1 == some .cell) = true)
    (hnd : ((cellsFrom 0 scope.names []).map (·.1)).Nodup)
    (h : ∀ g L' h₁ tk cells, s.heap = g → Fr g L' h₁ (bindL (envOfC qual scope L' f cdv).kindOf binds fun _ => none) → News g L' h₁ cells →
      CellsAre (bindC (envOfC qual scope L' f cdv).kindOf binds fun _ => none) (cellsFrom (L' + 1) scope.names []) cells → Below A base (env :: outer) g → K.In g → Top p loose mean mg mb g →
      wpAny (model prog w) (A.deeper (envOfC qual scope L' f cdv)) (execs body (envOfC qual scope L' f cdv))
        (fun fl s' => R (.ok (.ret (match fl with | .ret v => v | _ => .none))) s')
        (fun e s' => wpAny (model prog w) (A.deeper (envOfC qual scope L' f cdv)) (leaving (envOfC qual scope L' f cdv) e) (fun _ s'' => R (.error e) s'') (fun e' s'' => R (.error e') s'') s')
        { s with heap := h₁, toks := tk })
    (hco : scope.isCoroutine = false) (hgen : scope.isGenerator = false) (hk : scope.kind = .function) : codeAny (model prog w) A (.call (.ref f) args) R s := by
  refine codeAny_call_function (fd := fnOf name qual params body scope dV kV doc pm an cdv ct) (body := body) hroom ((X₀.keeps F.keep) _ _ ho) rfl hco hgen rfl (codeRec_of (X₀.keeps F.keep) hcd) (hbind _ _ _ _ ?_)
  refine wpAny_newFunctionEnv_cells hk (kindsX hkind _) fun env' he s' x => ?_
  subst he
  refine ⟨(T.nolimit.keeps F.keep).keeps x.toInCall.keep, codeAny_func ?_⟩
  obtain ⟨h₁, tk, rfl, _⟩ := x.done
  have hk₁ := x.toInCall.keep
  obtain ⟨cells, NC, Y⟩ := Cl.news (h₀ := s.heap) (Nat.le_refl _) fun n c hm => ⟨x.cell n c (lookup_of_mem_nodup (cellsFrom_names scope.names 0 (s.heap.objs.size + 1) [] [] rfl ▸ hnd) hm), x.above n c hm⟩
  exact h s.heap s.heap.objs.size h₁ tk cells rfl ⟨x.toInCall.ns, hk₁, Nat.le_refl _⟩ NC Y ⟨hA, (pushX B F hf hke).stays, (pushX B F hf hke).frames⟩ (X₀.keeps F.keep) (T.keeps F.keep)
section
variable {prog : Program} {w : World} {A : Around} {E : Value → Shared → Prop} {s : Shared} {h₀ : Heap} {L l : Addr} {m : Str → Option Value} {news : List (Addr × Obj)} {value slice : PySem.Expr} {vs : List Value} {vk : Value} {ops : List Value} {Q : Value → Shared → Prop}
theorem my_rev (F : Fr h₀ L s.heap m) (N : News h₀ L s.heap news) (hl : s.heap.IsList l vs.toArray) (pk : IsPart vk (some (-1)))
    (h : ∀ D h', Fr h₀ L h' m → News h₀ L h' ((D, listOf vs.reverse.toArray 0) :: news) → (∀ p ∈ news, p.1 < D) → Q (.ref D) { s with heap := h' })
    (hs : subscripted slice false (.ref l) (.ref s.heap.objs.size) = operate ops (getItem (.ref l) (.ref s.heap.objs.size))) (ht : ∀ r, letTemporaryGo value (.ref l) r = pure ()) (hz : vs.length ≤ sizeLine) :
    wpAny (model prog w) A (subscriptTail value slice (.ref l) (.ref s.heap.objs.size)) Q E { s with heap := s.heap.push { cls := .type "slice", data := .fields #[.none, .none, vk] } } :=
  krv_lit F N hl pk (by rw [List.toList_toArray]) h hs ht (by rw [List.size_toArray]; exact hz)
end
theorem SA.reverse {vs : List Value} {ss : List Str} (h : StrsAre vs ss) : StrsAre vs.reverse ss.reverse := by
  induction h with
  | nil => exact .nil
  | cons y t _ ih => rw [List.reverse_cons, List.reverse_cons]; exact SA.snoc ih y t

/-- a list made from a range -/
theorem comp_range {prog : Program} {w : World} {A : Around} {E : Value → Shared → Prop} {env : Env} {h₀ : Heap} {m₀ : Str → Option Value} {elt iter : Expr} {x : Str} {px : Pos} {ifs : List Expr} {scope : Scope} {cl : List (Str × Addr)} {pos : Pos} {s : Shared} {r : Addr} {n : Nat} {t₁ u₁ v₁ : Tok} {news₀ : List (Addr × Obj)} {Q : Value → Shared → Prop}
    (J : Nat → List Value → List (Addr × Obj) → Prop) (Ex : Addr → Addr → Value → Shared → Prop)
    (hh : A.handled = none) (hr : IsRange s.heap r 0 n 1 t₁ u₁ v₁) (hsz : n ≤ 1000) (hcell : ∀ y ∈ scope.names, y.2 ≠ .cell) (hkind : scope.kind = .function) (hx : scope.names.lookup x = some .local)
    (F : Fr h₀ env.locals s.heap m₀) (N : News h₀ env.locals s.heap news₀) (hj : J 0 [] news₀)
    (hE : ∀ C D e s', Ex C D e s' → notedBy (model prog w) A (compEnvC scope cl C env) (fun e s' => compPost (model prog w) A E none Q (.ref D) C (.error e) s') e s')
    (turn : ∀ (i : Nat) u outs news₁ h tk I oI D C oC mC nD, i < n → J i outs news₁ → NsObj oC mC → mC x = some (.int (i : Int) u) → (∀ p ∈ news₁, p.1 ≠ I ∧ p.1 ≠ D ∧ p.1 ≠ C) → (∀ p ∈ news₀, p.1 < I) → D < C → I < D →
      Fr h₀ env.locals h m₀ → News h₀ env.locals h ((I, oI) :: (D, PySem.W.listOf outs.toArray nD) :: (C, oC) :: news₁) →
      wpAny (model prog w) A (forIn ifs true fun c r => if r = true then do let ok ← isTrue c (compEnvC scope cl C env) (eval c (compEnvC scope cl C env)); pure (ForInStep.yield ok) else pure (ForInStep.yield r)) (fun ok s₃ =>
        if ok = true then wpAny (model prog w) A (eval elt (compEnvC scope cl C env)) (fun y s₄ => MakeEnd h₀ env.locals m₀ [(I, oI), (D, PySem.W.listOf outs.toArray nD), (C, oC)] (J (i + 1) (outs ++ [y])) { s with heap := h, toks := tk } s₄) (Ex C D) s₃
        else MakeEnd h₀ env.locals m₀ [(I, oI), (D, PySem.W.listOf outs.toArray nD), (C, oC)] (J (i + 1) outs) { s with heap := h, toks := tk } s₃) (Ex C D) { s with heap := h, toks := tk })
    (done : ∀ outs news₁ h tk D nD, J n outs news₁ → Fr h₀ env.locals h m₀ → News h₀ env.locals h ((D, PySem.W.listOf outs.toArray nD) :: news₁) → (∀ p ∈ news₁, p.1 ≠ D) → (∀ p ∈ news₀, p.1 < D) → Q (.ref D) { s with heap := h, toks := tk }) :
    wpAny (model prog w) A (pyIter (.ref r)) (fun it s₂ => wpAny (model prog w) A (newList []) (fun acc s₃ => wpAny (model prog w) A (newFunctionEnv scope env.globals cl [] env.qual none .none (some env)) (fun cenv s₄ =>
      codeAny (model prog w) A (.compStart (.ListComp elt [⟨.Name x px, iter, ifs, 0⟩] scope pos) 0 it acc { cenv with scope := relabel scope env }) (compPost (model prog w) A E none Q acc cenv.locals) s₄) E s₃) E s₂) E s := by
  have hsmall : Builtin.Range.small 0 n 1 = true := small_one (by decide) (by decide) (by omega) (by omega)
  refine wpAny_pyIter_range hr hsmall ?_
  have hnI : ∀ p ∈ news₀, p.1 < s.heap.objs.size := fun p hp => Heap.lt_size (N p hp).1
  have Wk := Walks.range (prog := prog) (w := w) hh s.heap.objs.size 0 1 n
  refine comp_my J (fun i v m' => m' x = some v) Ex Wk (fun b hb => by simpa using hb) (by rw [sizeLine_eq]; omega) hcell hkind ?_
    ⟨⟨_, Heap.get?_push_size _ rfl⟩, next_is_new F, Nat.ne_of_gt F.ns.lt⟩ (fun i h st => ⟨_, st⟩) (fun i s' v Q' E' st hQ' => wpAny_pure hQ') (F.push _)
    (fun p hp => ⟨Heap.get?_push_of_some _ (N p hp).1, (N p hp).2⟩) (fun p hp => Nat.ne_of_lt (hnI p hp)) hj ?_ (fun i v C s₁ m₁ Q' E' hP hC hC0 F' hn k => asg_name hkind hx hn k) hE ?_ done
  · have e2 : Builtin.Range.rangeSize 0 n 1 = (n : Int) := by rw [rangeSize_nat]; omega
    have h5 : IsRangeIter (s.heap.push { cls := .type "range_iterator", data := .fields #[rawInt 0, rawInt (Builtin.Range.rangeSize 0 n 1), rawInt 1] }) s.heap.objs.size 0 (Builtin.Range.rangeSize 0 n 1) 1 := Heap.get?_push_size _ rfl
    rw [e2] at h5
    have e3 : IsRangeIter (s.heap.push { cls := .type "range_iterator", data := .fields #[rawInt 0, rawInt (Builtin.Range.rangeSize 0 n 1), rawInt 1] }) s.heap.objs.size (0 + ((0 : Nat) : Int) * 1) ((n : Int) - ((0 : Nat) : Int)) 1 := by
      rw [show (0 + ((0 : Nat) : Int) * 1) = 0 by decide, show ((n : Int) - ((0 : Nat) : Int)) = n by simp, e2]
      exact h5
    exact e3
  · intro b hb
    exact .inl (List.mem_singleton.mp hb)
  · rintro i v outs news₁ h tk oI D C oC mC nD hi ⟨u, rfl⟩ hJ hnC hT hne' _ hDC hID F' N'
    refine turn i u outs news₁ h tk _ oI D C oC mC nD hi hJ hnC ?_ hne' hnI hDC hID F' N'
    rw [hT, show (0 + (i : Int) * 1) = i by omega]

theorem my_neE {prog : Program} {w : World} {A : Around} {E : Value → Shared → Prop} {s : Shared} {a b : Addr} {vs : List Value} {ns : List Int} {Q : Value → Shared → Prop} (hl : s.heap.IsList a vs.toArray) (hi : IntsAre vs ns) (hl' : s.heap.IsList b #[]) (hu : A.units + 64 < cLine)
    (h : Q (.bool (!ns.isEmpty)) s) : wpAny (model prog w) A (compareOp .NotEq (.ref a) (.ref b)) Q E s :=
  ne_intsK (us := []) (ms := []) hl hi hl' .nil hu (by
    have e : decide (ns = []) = ns.isEmpty := by cases ns <;> simp
    rw [e]; exact h)

/-- entering a plain def, all that stands kept but for some objects laid aside -/
theorem enterT {prog : Program} {w : World} {A A₀ : Around} {s : Shared} {K : Frag} {L : Addr} {h₀ base : Heap} {m mg mb : Str → Option Value} {p : Program} {loose : List Str} {mean : ExcName → Option Value}
    {env : Env} {outer : List Env} {R : Result → Shared → Prop} {name qual : Str} {params : Arguments} {body : List Stmt} {scope : Scope} {dV kV doc pm cdv ct oc : Value} {an od : Option Addr} {osl : Array (Option Value)} {f : Addr} {args : Args} {binds : List (Str × Value)} {tabs : List (Addr × Obj)}
    (B : Below A₀ base outer h₀) (F : Fr h₀ L s.heap m) (X₀ : K.In h₀) (T : Top p loose mean mg mb h₀) (N : News h₀ L s.heap tabs) (hA : A.frames = some (env :: outer)) (hf : env.frame = some L) (hke : env.scope.kind = .function)
    (ho : K.lookup f = some ⟨oc, od, .func (fnOf name qual params body scope dV kV doc pm an cdv ct), osl⟩) (hcd : codeIn K cdv qual = true) (hroom : A.depth < recursionLimit)
    (hbind : BindsTo s (fnOf name qual params body scope dV kV doc pm an cdv ct) args binds) (hloc : ∀ y ∈ binds, scope.names.lookup y.1 = some .local)
    (h : ∀ g L' h₁, hideAll s.heap (tabs.map (·.1)) = g → Fr g L' h₁ (fun y => binds.reverse.lookup y) → News g L' h₁ tabs → (∀ q ∈ tabs, q.1 < L') → Below A base (env :: outer) g → K.In g → Top p loose mean mg mb g →
      wpAny (model prog w) (A.deeper (envOf qual scope L' f cdv)) (execs body (envOf qual scope L' f cdv))
        (fun fl s' => R (.ok (.ret (match fl with | .ret v => v | _ => .none))) s')
        (fun e s' => wpAny (model prog w) (A.deeper (envOf qual scope L' f cdv)) (leaving (envOf qual scope L' f cdv) e) (fun _ s'' => R (.error e) s'') (fun e' s'' => R (.error e') s'') s')
        { s with heap := h₁, toks := s.toks + binds.length })
    (hco : scope.isCoroutine = false) (hgen : scope.isGenerator = false) (hk : scope.kind = .function)
    (hcell : ∀ x ∈ scope.names, x.2 ≠ .cell) : codeAny (model prog w) A (.call (.ref f) args) R s := by
  obtain ⟨FG, BG, st, -⟩ := groundX (R := R) B F N hA hf hke
  refine codeAny_call_def (fd := fnOf name qual params body scope dV kV doc pm an cdv ct) (body := body) (binds := binds) hroom ((X₀.keeps F.keep) _ _ ho) rfl (T.nolimit.keeps F.keep) (codeRec_of (X₀.keeps F.keep) hcd) rfl hbind hcell hloc
    (fun h₁ hns hk₁ => ?_) hco hgen hk
  exact h _ s.heap.objs.size h₁ rfl ⟨hns, fun b o e => hk₁ b o (of_hideAll _ e), Nat.le_of_eq (hideAll_size _ _)⟩
    (fun p hp => ⟨hk₁ _ _ (N p hp).1, Nat.ne_of_lt (Heap.lt_size (N p hp).1), hideAll_none _ (List.mem_map_of_mem hp)⟩) (fun p hp => Heap.lt_size (N p hp).1) BG (X₀.keeps st) (T.keeps st)

/-- the same for a def that holds cells -/
theorem enterCT {prog : Program} {w : World} {A A₀ : Around} {s : Shared} {K : Frag} {L : Addr} {h₀ base : Heap} {m mg mb : Str → Option Value} {p : Program} {loose : List Str} {mean : ExcName → Option Value}
    {env : Env} {outer : List Env} {R : Result → Shared → Prop} {name qual : Str} {params : Arguments} {body : List Stmt} {scope : Scope} {dV kV doc pm cdv ct oc : Value} {an od : Option Addr} {osl : Array (Option Value)} {f : Addr} {args : Args} {binds : List (Str × Value)} {tabs : List (Addr × Obj)}
    (B : Below A₀ base outer h₀) (F : Fr h₀ L s.heap m) (X₀ : K.In h₀) (T : Top p loose mean mg mb h₀) (N : News h₀ L s.heap tabs) (hA : A.frames = some (env :: outer)) (hf : env.frame = some L) (hke : env.scope.kind = .function)
    (ho : K.lookup f = some ⟨oc, od, .func (fnOf name qual params body scope dV kV doc pm an cdv ct), osl⟩) (hcd : codeIn K cdv qual = true) (hroom : A.depth < recursionLimit)
    (hbind : BindsTo s (fnOf name qual params body scope dV kV doc pm an cdv ct) args binds) (hkind : (binds.all fun y => scope.names.lookup y.1 == some .local || scope.names.lookup y.1 == some .cell) = true)
    (hnd : ((cellsFrom 0 scope.names []).map (·.1)).Nodup)
    (h : ∀ g L' h₁ tk cells, hideAll s.heap (tabs.map (·.1)) = g → Fr g L' h₁ (bindL (envOfC qual scope L' f cdv).kindOf binds fun _ => none) → News g L' h₁ (cells ++ tabs) →
      CellsAre (bindC (envOfC qual scope L' f cdv).kindOf binds fun _ => none) (cellsFrom (L' + 1) scope.names []) cells → (∀ q ∈ tabs, q.1 < L') → Below A base (env :: outer) g → K.In g → Top p loose mean mg mb g →
      wpAny (model prog w) (A.deeper (envOfC qual scope L' f cdv)) (execs body (envOfC qual scope L' f cdv))
        (fun fl s' => R (.ok (.ret (match fl with | .ret v => v | _ => .none))) s')
        (fun e s' => wpAny (model prog w) (A.deeper (envOfC qual scope L' f cdv)) (leaving (envOfC qual scope L' f cdv) e) (fun _ s'' => R (.error e) s'') (fun e' s'' => R (.error e') s'') s')
        { s with heap := h₁, toks := tk })
    (hco : scope.isCoroutine = false) (hgen : scope.isGenerator = false) (hk : scope.kind = .function) : codeAny (model prog w) A (.call (.ref f) args) R s := by
  obtain ⟨FG, BG, st, -⟩ := groundX (R := R) B F N hA hf hke
  refine codeAny_call_function (fd := fnOf name qual params body scope dV kV doc pm an cdv ct) (body := body) hroom ((X₀.keeps F.keep) _ _ ho) rfl hco hgen rfl (codeRec_of (X₀.keeps F.keep) hcd) (hbind _ _ _ _ ?_)
  refine wpAny_newFunctionEnv_cells hk (kindsX hkind _) fun env' he s' x => ?_
  subst he
  refine ⟨(T.nolimit.keeps F.keep).keeps x.toInCall.keep, codeAny_func ?_⟩
  obtain ⟨h₁, tk, rfl, _⟩ := x.done
  have hk₁ := x.toInCall.keep
  obtain ⟨cells, NC, Y⟩ := Cl.news (h₀ := s.heap) (Nat.le_refl _) fun n c hm => ⟨x.cell n c (lookup_of_mem_nodup (cellsFrom_names scope.names 0 (s.heap.objs.size + 1) [] [] rfl ▸ hnd) hm), x.above n c hm⟩
  refine h _ s.heap.objs.size h₁ tk cells rfl ⟨x.toInCall.ns, fun b o e => hk₁ b o (of_hideAll _ e), Nat.le_of_eq (hideAll_size _ _)⟩ (fun p hp => ?_) Y (fun p hp => Heap.lt_size (N p hp).1) BG (X₀.keeps st) (T.keeps st)
  rcases List.mem_append.mp hp with hp | hp
  · refine ⟨(NC p hp).1, (NC p hp).2.1, ?_⟩
    cases q : (hideAll s.heap (tabs.map (·.1))).get? p.1 with
    | none => rfl
    | some o => have := of_hideAll _ q; rw [(NC p hp).2.2] at this; cases this
  · exact ⟨hk₁ _ _ (N p hp).1, Nat.ne_of_lt (Heap.lt_size (N p hp).1), hideAll_none _ (List.mem_map_of_mem hp)⟩

/-- kept but for one object -/
abbrev KeptBut (P : Addr) (h h' : Heap) : Prop := ∀ b o, b ≠ P → h.get? b = some o → h'.get? b = some o
theorem keptBut_of {g h h' : Heap} {P L' : Addr} {m : Str → Option Value} (hg : hideAll h [P] = g) (F : Fr g L' h' m) : KeptBut P h h' := fun b o hb e =>
  F.keep b o (hg ▸ hideAll_get _ e fun q => hb (List.mem_singleton.mp q))

/-- what a table of code may hold: nothing, or the one entry -/
def Tab1 (l c : Nat) (ps : Array Value) : Prop := ps = #[] ∨ ∃ c' : Addr, ps = #[rawInt l, rawInt c, .ref c']

/-- what a call of a def gives back that may fill the table at 71 -/
abbrev Spec71 (w : World) (f : Addr) (d u : Nat) (pre : Heap → Prop) (vs : List Value) (post : Heap → Value → Prop) (l c : Nat) : Prop :=
  ∀ (p : Program) (loose : List Str) (mean : ExcName → Option Value) (mg mb : Str → Option Value) (dp un : Nat) (gd : Option (List Code)) (cn : Str) (cs : Scope) (a : Addr) (ccd : Value) (cl : List (Str × Addr))
    (outer : List Env) (A₀ : Around) (base h₀ : Heap) (L : Addr) (m : Str → Option Value) (s : Shared) (Q E : Value → Shared → Prop) (ps : Array Value),
    Below A₀ base outer h₀ → Fr h₀ L s.heap m → (hd.heap_39 w.params).In h₀ → Top p loose mean mg mb h₀ → cs.kind = .function → dp + d < recursionLimit → un + u < cLine → Tab1 l c ps → News h₀ L s.heap [(71, tabObj ps)] → pre s.heap →
    (∀ v h' tk' ps', Tab1 l c ps' → h'.get? 71 = some (tabObj ps') → KeptBut 71 s.heap h' → post h' v → Q v { s with heap := h', toks := tk' }) →
    wpAny (model PP w) (ktrTop dp un gd cn cs L a ccd cl outer) (call (.ref f) vs) Q E s

theorem use71 {w : World} {f : Addr} {d u : Nat} {pre : Heap → Prop} {vs : List Value} {post : Heap → Value → Prop} {l c : Nat} (S : Spec71 w f d u pre vs post l c)
    {p : Program} {loose : List Str} {mean : ExcName → Option Value} {mg mb : Str → Option Value} {dp un : Nat} {gd : Option (List Code)} {cn : Str} {cs : Scope} {a : Addr} {ccd : Value} {cl : List (Str × Addr)}
    {outer : List Env} {A₀ : Around} {base h₀ : Heap} {L : Addr} {m : Str → Option Value} {s : Shared} {Q E : Value → Shared → Prop} {news : List (Addr × Obj)} {ps : Array Value} {gn : Obj → List (Addr × Obj)}
    (B : Below A₀ base outer h₀) (F : Fr h₀ L s.heap m) (X : (hd.heap_39 w.params).In h₀) (N : News h₀ L s.heap news) (T : Top p loose mean mg mb h₀) (hk : cs.kind = .function) (hd : dp + d < recursionLimit) (hu : un + u < cLine) (ht : Tab1 l c ps) (U : UpdF 71 (tabObj ps) news gn) (hp : pre s.heap)
    (ret : ∀ v h' tk' ps', Tab1 l c ps' → KeptBut 71 s.heap h' → post h' v → Fr h₀ L h' m → News h₀ L h' (gn (tabObj ps')) → Q v { s with heap := h', toks := tk' }) :
    wpAny (model PP w) (ktrTop dp un gd cn cs L a ccd cl outer) (call (.ref f) vs) Q E s := by
  obtain ⟨own, rest, rfl, hgr, h1, h2⟩ := U.split
  have hm := N (71, tabObj ps) (List.mem_append_right _ (.head _))
  refine S _ _ _ _ _ _ _ _ _ _ _ _ _ _ _ _ _ _ _ _ _ _ _ B F X T hk hd hu ht (fun q hq => by rw [List.mem_singleton.mp hq]; exact hm) hp fun v h' tk' ps' ht' h71 hk' hp' => ?_
  refine ret v h' tk' ps' ht' hk' hp' ⟨F.ns.at' fun o e => hk' _ o (fun q => hm.2.1 q.symm) e, fun b o e => hk' b o (fun q => by rw [q, hm.2.2] at e; cases e) (F.keep b o e), F.above⟩ fun q hq => ?_
  rw [hgr] at hq
  rcases List.mem_append.mp hq with hq | hq
  · have n := N q (List.mem_append_left _ hq)
    exact ⟨hk' _ _ (h1 q hq) n.1, n.2⟩
  · rcases List.mem_cons.mp hq with rfl | hq
    · exact ⟨h71, hm.2⟩
    · have n := N q (List.mem_append_right _ (.tail _ hq))
      exact ⟨hk' _ _ (h2 q hq) n.1, n.2⟩

/-- a piece stands at a place of a text -/
def AtS (pat : Str) (i : Nat) (p : Str) : Prop := ∃ a b, pat = a ++ p ++ b ∧ a.length = i
theorem AtS.cp {pat p : Str} {i d n : Nat} (H : AtS pat i p) (hc : p.cps[d]? = some n) : pat.cps[i + d]? = some n := by
  obtain ⟨a, b, rfl, rfl⟩ := H
  show (a.cps ++ p.cps ++ b.cps)[a.cps.size + d]? = some n
  have hd : d < p.cps.size := (Array.getElem?_eq_some_iff.mp hc).1
  rw [Array.getElem?_append_left (by rw [Array.size_append]; omega), Array.getElem?_append_right (by omega), Nat.add_sub_cancel_left]
  exact hc
theorem AtS.item {pat p : Str} {i d n : Nat} {z : Int} (H : AtS pat i p) (hz : z = ((i + d : Nat) : Int)) (hc : p.cps[d]? = some n) : Txt.item pat z = ⟨#[n]⟩ :=
  item_meets (by omega) (by rw [hz, Int.toNat_natCast]; exact H.cp hc)
theorem AtS.le {pat p : Str} {i : Nat} (H : AtS pat i p) : i + p.length ≤ pat.length := by
  obtain ⟨a, b, rfl, rfl⟩ := H
  show a.cps.size + p.cps.size ≤ (a.cps ++ p.cps ++ b.cps).size
  rw [Array.size_append, Array.size_append]; omega
section
variable {M : Model} {A : Around} {E : Value → Shared → Prop} {s : Shared} {prog : Program} {w : World}
theorem item_as {pat p : Str} {t u : Tok} {value slice : Expr} {i d n : Nat} {z : Int} {Q : Value → Shared → Prop} (H : AtS pat i p) (hz : z = ((i + d : Nat) : Int)) (hc : p.cps[d]? = some n) (hl : pat.length ≤ 1000)
    (h : Q (.str ⟨#[n]⟩ s.toks) { s with toks := s.toks + 1 })
    (hs : subscripted slice false (.str pat t) (.int z u) = operate [.str pat t, .int z u] (getItem (.str pat t) (.int z u)) := by with_unfolding_all rfl)
    (ht : ∀ r, letTemporaryGo value (.str pat t) r = pure () := by intro _; with_unfolding_all rfl) :
    wpAny (model prog w) A (subscriptTail value slice (.str pat t) (.int z u)) Q E s := by
  have hd : d < p.cps.size := (Array.getElem?_eq_some_iff.mp hc).1
  have h2 : i + p.length ≤ pat.length := H.le
  have h3 : p.length = p.cps.size := rfl
  refine item_str (fitsSsize_of (N := 9223372036854775808) (by omega) (by omega) (Int.le_refl _)) (by omega) (by omega) (fun _ => ?_) hs ht
  rw [H.item hz hc]
  exact h
end
theorem ch_0 : (Str.ofString "a").cps[0]? = some 97 := by first | rfl | decide +kernel
theorem ch_1 : (Str.ofString "b").cps[0]? = some 98 := by first | rfl | decide +kernel
theorem ch_2 : (Str.ofString "?").cps[0]? = some 63 := by first | rfl | decide +kernel
theorem ch_3 : (Str.ofString "*").cps[0]? = some 42 := by first | rfl | decide +kernel
theorem ch_4 : (Str.ofString "[ab]").cps[0]? = some 91 := by first | rfl | decide +kernel
theorem ch_5 : (Str.ofString "[ab]").cps[1]? = some 97 := by first | rfl | decide +kernel
theorem ch_6 : (Str.ofString "[ab]").cps[2]? = some 98 := by first | rfl | decide +kernel
theorem ch_7 : (Str.ofString "[ab]").cps[3]? = some 93 := by first | rfl | decide +kernel
theorem ch_8 : (Str.ofString "[!a]").cps[0]? = some 91 := by first | rfl | decide +kernel
theorem ch_9 : (Str.ofString "[!a]").cps[1]? = some 33 := by first | rfl | decide +kernel
theorem ch_10 : (Str.ofString "[!a]").cps[2]? = some 97 := by first | rfl | decide +kernel
theorem ch_11 : (Str.ofString "[!a]").cps[3]? = some 93 := by first | rfl | decide +kernel
theorem All2.snocL {α β : Type} {R : α → β → Prop} : ∀ {us : List α} {y : α} {bs : List β}, All2 R (us ++ [y]) bs → ∃ acc o, bs = acc ++ [o] ∧ All2 R us acc ∧ R y o
  | [], _, _, .cons h .nil => ⟨[], _, rfl, .nil, h⟩
  | _ :: us, _, _, .cons h r => let ⟨acc, o, e, k, l⟩ := All2.snocL (us := us) r; ⟨_ :: acc, o, by rw [e]; rfl, .cons h k, l⟩
/-- a cut of a piece that stands in the text -/
theorem AtS.cut {pat p : Str} {i d e : Nat} {z1 z2 : Int} (H : AtS pat i p) (h1 : z1 = ((i + d : Nat) : Int)) (h2 : z2 = ((i + e : Nat) : Int)) (hd : d ≤ e) (he : e ≤ p.length) : Txt.slice pat (some z1) (some z2) = ⟨((p.cps.toList.drop d).take (e - d)).toArray⟩ := by
  have hle := H.le
  have hc := eq_of_beq (slice_closesL (x := pat) (i := z1) (j := z2) (by omega) (by omega) (by omega))
  rw [hc]
  obtain ⟨a, b, rfl, hi⟩ := H
  have hal : a.cps.toList.length = i := by rw [Array.length_toList]; exact hi
  have hpl : p.cps.toList.length = p.length := Array.length_toList
  have e1 : (a ++ p ++ b).cps.toList = a.cps.toList ++ (p.cps.toList ++ b.cps.toList) := by
    show (a.cps ++ p.cps ++ b.cps).toList = _
    rw [Array.toList_append, Array.toList_append, List.append_assoc]
  rw [e1]
  congr 2
  rw [show z1.toNat = a.cps.toList.length + d by omega, show (z2 - z1).toNat = e - d by omega, List.drop_append, List.drop_eq_nil_of_le (by omega), List.nil_append, show a.cps.toList.length + d - a.cps.toList.length = d by omega, List.drop_append, List.take_append_of_le_length (by rw [List.length_drop]; omega)]
section
variable {prog : Program} {w : World} {A : Around} {E : Value → Shared → Prop} {s : Shared} {value slice : Expr} {t : Tok} {h₀ : Heap} {L : Addr} {m : Str → Option Value} {news : List (Addr × Obj)} {Q : Value → Shared → Prop}
theorem sl_as {pat p q : Str} {i d e : Nat} {z1 z2 : Int} {u1 u2 : Tok} (F : Fr h₀ L s.heap m) (N : News h₀ L s.heap news) (H : AtS pat i p) (h1 : z1 = ((i + d : Nat) : Int)) (h2 : z2 = ((i + e : Nat) : Int)) (hd : d ≤ e) (he : e ≤ p.length) (hq : (⟨((p.cps.toList.drop d).take (e - d)).toArray⟩ : Str) = q) (hl : pat.length ≤ 1000)
    (h : ∀ h' t' k, Fr h₀ L h' m → News h₀ L h' news → Q (.str q t') { s with heap := h', toks := k })
    (hs : subscripted slice false (.str pat t) (.ref s.heap.objs.size) = operate [.ref s.heap.objs.size, .str pat t] (getItem (.str pat t) (.ref s.heap.objs.size)) := by with_unfolding_all rfl)
    (ht : ∀ r, letTemporaryGo value (.str pat t) r = pure () := by intro _; with_unfolding_all rfl) :
    wpAny (model prog w) A (subscriptTail value slice (.str pat t) (.ref s.heap.objs.size)) Q E { s with heap := s.heap.push { cls := .type "slice", data := .fields #[.int z1 u1, .int z2 u2, .none] } } := by
  refine slice_strN_ss F N (fun h' t' k F' N' => ?_) hs ht (by rw [sizeLine_eq]; omega)
  rw [H.cut h1 h2 hd he, hq]
  exact h h' t' k F' N'
end
theorem cut_ab : (⟨(((Str.ofString "[ab]").cps.toList.drop 1).take (3 - 1)).toArray⟩ : Str) = Str.ofString "ab" := by decide +kernel
theorem cut_na : (⟨(((Str.ofString "[!a]").cps.toList.drop 1).take (3 - 1)).toArray⟩ : Str) = Str.ofString "!a" := by decide +kernel

theorem str_app_empty (x : Str) : x ++ Str.empty = x := by
  show (⟨x.cps ++ #[]⟩ : Str) = x
  rw [Array.append_empty]
theorem empty_app (x : Str) : Str.empty ++ x = x := by
  show (⟨#[] ++ x.cps⟩ : Str) = x
  rw [Array.empty_append]
theorem str_app_assoc (x y z : Str) : x ++ y ++ z = x ++ (y ++ z) := by
  show (⟨x.cps ++ y.cps ++ z.cps⟩ : Str) = ⟨x.cps ++ (y.cps ++ z.cps)⟩
  rw [Array.append_assoc]
theorem str_len_app (x y : Str) : (x ++ y).length = x.length + y.length := by
  show (x.cps ++ y.cps).size = _
  rw [Array.size_append]; rfl
theorem join0_cons (p : Str) : ∀ l : List Str, Str.join (Str.ofString "") (p :: l) = p ++ Str.join (Str.ofString "") l
  | [] => (str_app_empty p).symm
  | q :: l => by
    show p ++ Str.ofString "" ++ Str.join (Str.ofString "") (q :: l) = _
    rw [show Str.ofString "" = Str.empty from rfl, str_app_empty]
theorem join0_app : ∀ a b : List Str, Str.join (Str.ofString "") (a ++ b) = Str.join (Str.ofString "") a ++ Str.join (Str.ofString "") b
  | [], b => (empty_app _).symm
  | p :: a, b => by rw [List.cons_append, join0_cons, join0_app a b, join0_cons, str_app_assoc]
theorem join0_len (p : Str) (a : List Str) : (Str.join (Str.ofString "") (a ++ [p])).length = (Str.join (Str.ofString "") a).length + p.length := by
  rw [join0_app, str_len_app, join0_cons, str_len_app]
  rfl
theorem join0_le {n : Nat} : ∀ l : List Str, (∀ p ∈ l, p.length ≤ n) → (Str.join (Str.ofString "") l).length ≤ l.length * n
  | [], _ => Nat.zero_le _
  | p :: l, h => by
    rw [join0_cons, str_len_app, List.length_cons, Nat.succ_mul, Nat.add_comm]
    exact Nat.add_le_add (join0_le l fun q hq => h q (.tail _ hq)) (h p (.head _))
theorem join0_at {row dn rest : List Str} {p pat : Str} (hp : pat = Str.join (Str.ofString "") row) (hr : row = dn ++ p :: rest) : AtS pat (Str.join (Str.ofString "") dn).length p :=
  ⟨_, Str.join (Str.ofString "") rest, by rw [hp, hr, join0_app, join0_cons, str_app_assoc], rfl⟩
theorem join0_pre {row dn rest : List Str} {pat : Str} (hp : pat = Str.join (Str.ofString "") row) (hr : row = dn ++ rest) : (Str.join (Str.ofString "") dn).length ≤ pat.length := by
  rw [hp, hr, join0_app, str_len_app]; exact Nat.le_add_right _ _

section
open PySem PySem.W PySem.Calls PyProof.Rows PySem.Builtin PySem.Builtin.Re
/-- the octets of the one pattern -/
noncomputable def cd57 : Array Nat := #[14, 14, 4, 1, 1, 9, 0, 64, 0, 1342177280, 0, 0, 0, 0, 0, 17, 0, 13, 11, 9, 0, 64, 0, 1342177280, 0, 0, 0, 0, 0, 17, 1, 1]
noncomputable def driveP : Nat → Sre.M → Option Sre.M
  | 0, _ => none
  | k + 1, m => if (m.runFor reTurnSteps).outcome.isSome then some (m.runFor reTurnSteps) else driveP k (m.runFor reTurnSteps)
noncomputable def failsIn (k : Nat) (m : Sre.M) : Bool := match driveP k m with
  | some r => (match r.outcome with | some .failed => true | _ => false)
  | none => false
theorem fails_ab : failsIn 40 (Sre.forSearch cd57 #[97, 98] 1 0 2 false) = true := by decide +kernel
theorem fails_na : failsIn 40 (Sre.forSearch cd57 #[33, 97] 1 0 2 false) = true := by decide +kernel
section
variable {prog : Program} {w : World} {A : Around} {E : Value → Shared → Prop} {s : Shared}
theorem drive_of {M : Model} {r : Sre.M} {Q : Sre.M → Shared → Prop} (hq : Q r s) : ∀ {k turns : Nat} {m : Sre.M}, driveP k m = some r → k ≤ turns → wpAny M A (reDrive turns m) Q E s
  | 0, _, _, h, _ => by cases h
  | k + 1, 0, _, _, hk => absurd hk (Nat.not_succ_le_zero _)
  | k + 1, turns + 1, m, h, hk => by
    unfold driveP at h
    unfold reDrive
    dsimp only
    split at h
    · rename_i h1
      cases h
      rw [if_pos h1]
      exact wpAny_pure hq
    · rename_i h1
      rw [if_neg h1]
      exact wpAny_bind (wpAny_rule (drive_of hq h (Nat.le_of_succ_le_succ hk)))
theorem run_fails {M : Model} {m : Sre.M} {k : Nat} {Q : Option Sre.M → Shared → Prop} (h : failsIn k m = true) (hk : k ≤ 2 ^ 64) (hq : Q none s) : wpAny M A (reRunToEnd m) Q E s := by
  unfold failsIn at h
  split at h
  · rename_i r hr
    unfold reRunToEnd
    refine wpAny_bind (drive_of ?_ hr hk)
    refine wpAny_bind (wpAny_forIn_list _ (fun _ _ s' => s' = s) _ (fun x rest b s' hs => ?_) (fun b s' hs => ?_) _ _ rfl)
    · subst hs
      split
      · exact wpAny_bind (wpAny_rule (wpAny_pure rfl))
      · exact wpAny_pure rfl
    · subst hs
      split at h
      · rename_i ho
        rw [ho]
        exact wpAny_pure hq
      · cases h
  · cases h
theorem whole57 {x : Str} {t : Tok} {Q : ReTarget → Shared → Prop} {its : Array Value} {n : Nat} {v0 v1 v2 v3 v4 : Value} (h57 : s.heap.get? 57 = some { cls := .type "re.Pattern", data := .fields #[v0, v1, v2, v3, v4, .ref 56, .int 0 0] }) (h56 : s.heap.get? 56 = some { cls := .type "tuple", data := .seq its n })
   (hq : Q { pattern := Value.ref 57, string := Value.str x t, code := Array.map (fun x => x.toNat) (Array.map reRawOf its), text := x.cps, kind := 0, groups := reRawNat v2, pos := 0, lim := x.cps.size } s) : wpAny (model prog w) A (reWholeTarget (.ref 57) (.str x t)) Q E s := by
  obtain ⟨hp, g, d, tk, os⟩ := s
  unfold reWholeTarget
  repeat (any_goals (first | assumption | (with_reducible refine wpAny_loadPart_at h57 ?_) | (with_reducible refine wpAny_loadPart_at h56 ?_) | wp_step))
theorem at_whole {M : Model} {p v : Value} {Q : ReTarget → Shared → Prop} (hs : Stop (wpAny M A (reWholeTarget p v) Q E s)) : wpAny M A (reWholeTarget p v) Q E s := hs
theorem at_next {M : Model} {tg : ReTarget} {st : Nat} {b : Bool} {Q : Option Sre.M → Shared → Prop} (hs : Stop (wpAny M A (reNextFound tg st b) Q E s)) : wpAny M A (reNextFound tg st b) Q E s := hs
theorem at_call {M : Model} {f : Value} {as : List Value} {Q : Value → Shared → Prop} (hs : Stop (wpAny M A (call f as) Q E s)) : wpAny M A (call f as) Q E s := hs
theorem loop57 {x : Str} {t t1 t2 t3 t4 t5 : Tok} {l lam : Addr} {Q : PySem.Fin → Shared → Prop} {its : Array Value} {n nl : Nat} {v0 v1 v2 v3 v4 : Value} (h57 : s.heap.get? 57 = some { cls := .type "re.Pattern", data := .fields #[v0, v1, v2, v3, v4, .ref 56, .int 0 0] }) (h56 : s.heap.get? 56 = some { cls := .type "tuple", data := .seq its n })
   (hl : s.heap.get? l = some { cls := .type "list", data := .seq #[] nl }) (hx : 0 < x.cps.size) (hxs : x.length ≤ 1000) (hc : failsIn 40 (Sre.forSearch (Array.map (fun x => x.toNat) (Array.map reRawOf its)) x.cps (reRawNat v2) 0 x.cps.size false) = true)
   (hj : Txt.join (Str.ofString "") [x] = x) (hq : ∀ t' k h', (∀ b o, b ≠ l → s.heap.get? b = some o → h'.get? b = some o) → Q (.done (.ret (.str x t'))) { s with heap := h', toks := k }) : wpAny (model prog w) A (Builtin.«re.Pattern.sub.loop» ⟨[.ref 57, .str x t, .ref lam, .int 1 t1, .int 0 t2, .int 0 t3, .int 0 t4, .int 0 t5, .bool false, .ref l, .bool false], []⟩) Q E s := by
  obtain ⟨hp, g, d, tk, os⟩ := s
  unfold Builtin.«re.Pattern.sub.loop»
  repeat (any_goals (first | (with_reducible refine at_whole ?_) | (with_reducible refine at_next ?_) | wp_step))
  refine Stop.go (whole57 h57 h56 ?_)
  repeat (any_goals (first | (with_reducible refine at_whole ?_) | (with_reducible refine at_next ?_) | wp_step))
  refine Stop.go (run_fails hc (by decide) ?_)
  dsimp only
  rw [if_pos (show (0 : Int).toNat < x.cps.size from hx)]
  unfold reSlice
  rw [if_pos (show ((0 : Nat) == 0) = true from rfl), if_pos (show ((0 : Nat) == 0) = true from rfl)]
  have hxx : (⟨x.cps.extract (Int.toNat 0) x.cps.size⟩ : Str) = x := by
    show (⟨x.cps.extract 0 x.cps.size⟩ : Str) = x
    rw [Array.extract_size]
  rw [hxx]
  have hx2 : (⟨x.cps.extract 0 0⟩ : Str) = Str.ofString "" := by
    rw [show x.cps.extract 0 0 = #[] from by simp]; rfl
  rw [hx2]
  have hz : x.length ≤ sizeLine := by rw [sizeLine_eq]; omega
  refine wpAny_bind (wpAny_mkStr ?_ hz)
  repeat (any_goals (first | (with_reducible refine at_call ?_) | (with_reducible refine wpAny_loadPart_at hl ?_) | wp_step))
  refine Stop.go ?_
  rw [if_pos (show ((0 : Nat) == 0) = true from rfl)]
  have hl2 : Heap.get? (hp.update l (Obj.mapSeq fun xs => xs.push (Value.str x tk))) l = some { cls := .type "list", data := .seq #[.str x tk] (nl + 1) } := Heap.get?_update_self _ hl rfl
  refine join_list (items := #[.str x tk]) (ys := [x]) ⟨_, hl2, rfl, _, rfl⟩ (.cons _ _ .nil) ?_ fun t' k => ?_
  · have h0 : (Str.ofString "").length = 0 := rfl
    simp only [List.map_cons, List.map_nil, List.sum_cons, List.sum_nil, List.length_cons, List.length_nil, h0]
    omega
  · rw [hj]
    rw [if_neg Bool.false_ne_true]
    refine wpAny_pure (hq _ _ _ fun b o hb e => ?_)
    exact (Heap.get?_update_other _ _ (Ne.symm hb)).trans e
theorem slot_sub : Slot "re.Pattern" "sub" "re.Pattern.sub" :=
  .of (owner := "re.Pattern") (n := "sub") (by rw [typeLookup_type, builtinLookup_eq_fast]; kernel_rfl) (by decide +kernel) (by decide +kernel) (by decide +kernel)
    (by first | exact .inl (by decide +kernel) | exact .inr (by decide +kernel)) (by rw [isSubtype_type]; kernel_rfl)
theorem entry_sub : entryFor table "re.Pattern.sub" = some Builtin.«re.Pattern.sub» := entryFor_of_tree (by kernel_rfl)
theorem entry_loop : entryFor table "re.Pattern.sub.loop" = some Builtin.«re.Pattern.sub.loop» := entryFor_of_tree (by kernel_rfl)
theorem plain_loop : plainId "re.Pattern.sub.loop" = true := by decide +kernel
theorem args_sub (a b c : Value) : argsOk "re.Pattern.sub" ⟨[a, b, c], []⟩ := by unfold argsOk; kernel_rfl
theorem fn_call : typeLookup (.type "function") "__call__" = pure (some (.builtin "function.__call__")) := by rw [typeLookup_type, builtinLookup_eq_fast]; kernel_rfl
theorem at_again {M : Model} {c : Code} {Q : PySem.Fin → Shared → Prop} (hs : Stop (wpAny M A (again c) Q E s)) : wpAny M A (again c) Q E s := hs
theorem str_ba : isSubtype (.type "str") (.type "bytearray") = pure false := by rw [isSubtype_type]; kernel_rfl
theorem not_held {M : Model} {x : Str} {t : Tok} {Q : Unit → Shared → Prop} (hq : Q () s) : wpAny M A (reNotHeld "re.Pattern.sub" (.str x t)) Q E s := by
  unfold reNotHeld
  refine wpAny_bind (wpAny_isInstance (typeIs_str _ _ _) str_ba ?_)
  rw [if_neg Bool.false_ne_true]
  exact wpAny_pure hq
theorem at_held {M : Model} {i : String} {v : Value} {Q : Unit → Shared → Prop} (hs : Stop (wpAny M A (reNotHeld i v) Q E s)) : wpAny M A (reNotHeld i v) Q E s := hs
theorem sub57 {x : Str} {t : Tok} {lam : Addr} {fd : FuncData} {Q : PySem.Fin → Shared → Prop} {its : Array Value} {n : Nat} {v0 v1 v2 v3 v4 : Value} (h57 : s.heap.get? 57 = some { cls := .type "re.Pattern", data := .fields #[v0, v1, v2, v3, v4, .ref 56, .int 0 0] }) (h56 : s.heap.get? 56 = some { cls := .type "tuple", data := .seq its n })
   (hf : s.heap.get? lam = some { cls := .type "function", data := .func fd })
   (hq : ∀ t1 t2 t3 t4 t5 l nl tk h', h'.get? l = some { cls := .type "list", data := .seq #[] nl } → (∀ b o, s.heap.get? b = some o → h'.get? b = some o) → s.heap.get? l = none → Q (.again (.builtin "re.Pattern.sub.loop" ⟨[.ref 57, .str x t, .ref lam, .int 1 t1, .int 0 t2, .int 0 t3, .int 0 t4, .int 0 t5, .bool false, .ref l, .bool false], []⟩)) { s with heap := h', toks := tk }) :
   wpAny (model prog w) A (Builtin.«re.Pattern.sub» ⟨[.ref 57, .ref lam, .str x t], []⟩) Q E s := by
  obtain ⟨hp, g, d, tk, os⟩ := s
  have f1 := fn_call
  unfold Builtin.«re.Pattern.sub» reSubstitute specialOf
  repeat (any_goals (first | assumption | (with_reducible refine at_again ?_) | (with_reducible refine at_whole ?_) | (with_reducible refine wpAny_loadPart_at hf ?_) | wp_step))
  refine Stop.go (whole57 h57 h56 ?_)
  repeat (any_goals (first | assumption | (with_reducible refine at_held ?_) | wp_step))
  refine Stop.go (not_held ?_)
  repeat (any_goals (first | assumption | (with_reducible refine at_again ?_) | wp_step))
  refine Stop.go ?_
  exact wpAny_pure (hq _ _ _ _ _ _ 0 _ _ (Heap.get?_push_size _ rfl) (fun b o e => Heap.get?_push_of_some _ e) (Heap.get?_none_of_le (Nat.le_refl _)))
theorem quiet_loop (as : Args) : (Code.builtin "re.Pattern.sub.loop" as).quiet = true := plainId_quiet plain_loop as
theorem call_sub57 {x : Str} {t : Tok} {lam : Addr} {fd : FuncData} {Q : Value → Shared → Prop} {its : Array Value} {n : Nat} {v0 v1 v2 v3 v4 : Value} (h57 : s.heap.get? 57 = some { cls := .type "re.Pattern", data := .fields #[v0, v1, v2, v3, v4, .ref 56, .int 0 0] }) (h56 : s.heap.get? 56 = some { cls := .type "tuple", data := .seq its n })
   (hf : s.heap.get? lam = some { cls := .type "function", data := .func fd }) (hx : 0 < x.cps.size) (hxs : x.length ≤ 1000) (hc : failsIn 40 (Sre.forSearch (Array.map (fun x => x.toNat) (Array.map reRawOf its)) x.cps (reRawNat v2) 0 x.cps.size false) = true) (hj : Txt.join (Str.ofString "") [x] = x)
   (hq : ∀ t' k h', (∀ b o, s.heap.get? b = some o → h'.get? b = some o) → Q (.str x t') { s with heap := h', toks := k }) :
   wpAny (model prog w) A (call (.builtin "re.Pattern.sub") [.ref 57, .ref lam, .str x t]) Q E s := by
  refine wpAny_call (codeAny_call_builtin slot_sub.plain entry_sub (slot_sub.check _ _ _ _ _ _ _ _ ⟨_, h57, rfl⟩ (args_sub _ _ _) (sub57 h57 h56 hf fun t1 t2 t3 t4 t5 l nl tk h' hl hk hn => ?_)))
  refine ⟨quiet_loop _, codeAny_builtin entry_loop ?_⟩
  refine loop57 (s := { s with heap := h', toks := tk }) (hk _ _ h57) (hk _ _ h56) hl hx hxs hc hj fun t' k h2 hk2 => ?_
  exact hq t' k h2 fun b o e => hk2 b o (fun q => by rw [q, hn] at e; cases e) (hk b o e)
end
end

section
open PySem PySem.W PySem.Calls PyProof.Rows PySem.Builtin PySem.Builtin.Re
theorem fillit_MSubK : PySem.Challenge.rw_in0069_01 = PySem.Challenge.rw_in0069_01 ∧ hd.heap_39 = hd.heap_39 := by
  w_top off
  k_fill
  exact ⟨rfl, rfl⟩
section
variable {prog : Program} {w : World} {A : Around} {E : Value → Shared → Prop} {s : Shared} {h₀ : Heap} {L : Addr} {m : Str → Option Value} {news : List (Addr × Obj)}
theorem pat57 {h : Heap} (X : (hd.heap_39 w.params).In h) : ∃ its n v0 v1 v2 v3 v4, h.get? 57 = some { cls := .type "re.Pattern", data := .fields #[v0, v1, v2, v3, v4, .ref 56, .int 0 0] } ∧
    h.get? 56 = some { cls := .type "tuple", data := .seq its n } ∧ Array.map (fun x => x.toNat) (Array.map reRawOf its) = cd57 ∧ reRawNat v2 = 1 := by
  have e : ∃ its n v0 v1 v2 v3 v4, (hd.heap_39 w.params).lookup 57 = some ⟨.type "re.Pattern", none, .fields #[v0, v1, v2, v3, v4, .ref 56, .int 0 0], #[]⟩ ∧ (hd.heap_39 w.params).lookup 56 = some ⟨.type "tuple", none, .seq its n, #[]⟩ ∧
      Array.map (fun x => x.toNat) (Array.map reRawOf its) = cd57 ∧ reRawNat v2 = 1 := by
    refine ⟨_, _, _, _, _, _, _, by k_is, by k_is, ?_, ?_⟩
    · decide +kernel
    · decide +kernel
  obtain ⟨its, n, v0, v1, v2, v3, v4, e1, e2, e3, e4⟩ := e
  exact ⟨its, n, v0, v1, v2, v3, v4, X _ _ e1, X _ _ e2, e3, e4⟩
theorem call_subK {x : Str} {t : Tok} {lam : Addr} {fd : FuncData} {Q : Value → Shared → Prop} (F : Fr h₀ L s.heap m) (N : News h₀ L s.heap news) (X : (hd.heap_39 w.params).In h₀) (hf : (lam, ({ cls := .type "function", data := .func fd } : Obj)) ∈ news)
    (hx : 0 < x.cps.size) (hxs : x.length ≤ 1000) (hc : failsIn 40 (Sre.forSearch cd57 x.cps 1 0 x.cps.size false) = true) (hj : Txt.join (Str.ofString "") [x] = x)
    (hq : ∀ t' k h', Fr h₀ L h' m → News h₀ L h' news → Q (.str x t') { s with heap := h', toks := k }) :
    wpAny (model prog w) A (call (.builtin "re.Pattern.sub") [.ref 57, .ref lam, .str x t]) Q E s := by
  obtain ⟨its, n, v0, v1, v2, v3, v4, e1, e2, e3, e4⟩ := pat57 (X.keeps F.keep)
  refine call_sub57 e1 e2 (N _ hf).1 hx hxs (by rw [e3, e4]; exact hc) hj fun t' k h' hk => ?_
  exact hq t' k h' ⟨F.ns.keeps hk, fun b o e => hk b o (F.keep b o e), F.above⟩ fun q hq => ⟨hk _ _ (N q hq).1, (N q hq).2⟩
end
theorem sub_ab : 0 < (Str.ofString "ab").cps.size ∧ (Str.ofString "ab").length ≤ 1000 ∧ failsIn 40 (Sre.forSearch cd57 (Str.ofString "ab").cps 1 0 (Str.ofString "ab").cps.size false) = true ∧ Txt.join (Str.ofString "") [Str.ofString "ab"] = Str.ofString "ab" := by decide +kernel
theorem sub_na : 0 < (Str.ofString "!a").cps.size ∧ (Str.ofString "!a").length ≤ 1000 ∧ failsIn 40 (Sre.forSearch cd57 (Str.ofString "!a").cps 1 0 (Str.ofString "!a").cps.size false) = true ∧ Txt.join (Str.ofString "") [Str.ofString "!a"] = Str.ofString "!a" := by decide +kernel
section
variable {prog : Program} {w : World} {A : Around} {E : Value → Shared → Prop} {s : Shared} {x y z : Str} {t u v : Tok} {Q : Value → Shared → Prop}
open PySem.Builtin.Str in
theorem replace_none (hc : (occurrences x y 0 x.length (x.length + 1)).isEmpty = true) (hq : Q (.str x t) s) : wpAny (model prog w) A (call (.builtin "str.replace") [.str x t, .str y u, .str z v]) Q E s := by
  have hc' : ((occurrences x y 0 x.length (x.length + 1)).isEmpty || (y.length == 0 && z.length == 0)) = true := by rw [hc]; rfl
  refine call_gives F.slot_str_replace (typeIs_str _ _ _) F.entry_str_replace (F.args_str_replace_3 _ _ _) (gives_str_replace x y z t u v fun h => absurd (hc'.symm.trans h) nofun) ?_
  simp only [hc', if_true]
  exact hq
open PySem.Builtin.Str in
theorem notin_lit (hc : (occurrences x y 0 x.length 1).isEmpty = true) (h : Q (.bool true) s) : wpAny (model prog w) A (compareOp .NotIn (.str y u) (.str x t)) Q E s := by
  refine notIn_str ?_
  rw [hc]
  exact h
end
theorem pat_plain : PlainAttrs "re.Pattern" :=
  ⟨⟨"object.__getattribute__", by rw [typeLookup_type, builtinLookup_eq_fast]; kernel_rfl, by decide +kernel⟩, by rw [typeLookup_type, builtinLookup_eq_fast]; kernel_rfl⟩
theorem type_sub : typeOf (.builtin "re.Pattern.sub") = pure (.type "method_descriptor") := by show builtinType _ = _; rw [builtinType_eq_fast]; kernel_rfl
theorem get_sub {w : World} {M : Model} {A : Around} {E : Value → Shared → Prop} {s : Shared} {h₀ : Heap} {L : Addr} {m : Str → Option Value} {pl : Sem Bool} {Q : Value × List Value → Shared → Prop} (F : Fr h₀ L s.heap m) (X : (hd.heap_39 w.params).In h₀)
    (h : Q (.builtin "re.Pattern.sub", [.ref 57]) s) : wpAny M A (getMethod (.ref 57) (Str.ofString "sub") pl) Q E s := by
  obtain ⟨its, n, v0, v1, v2, v3, v4, e1, -⟩ := pat57 (X.keeps F.keep)
  exact getMethod_builtin ⟨_, e1, rfl⟩ pat_plain slot_sub type_sub (fun a e => by cases e; exact ⟨_, e1, rfl⟩) h
end

section
open PySem PySem.W PySem.Calls PyProof.Rows PySem.Builtin PySem.Builtin.ObjectAttr
/-- a list's append, bound -/
abbrev boundApp (l : Addr) : Obj := { cls := .type "builtin_function_or_method", data := .fields #[.builtin "list.append", .ref l] }
theorem slot_md_get : Slot "method_descriptor" "__get__" "method_descriptor.__get__" :=
  .of (owner := "method_descriptor") (n := "__get__") (by rw [typeLookup_type, builtinLookup_eq_fast]; kernel_rfl) (by decide +kernel) (by decide +kernel) (by decide +kernel)
    (by first | exact .inl (by decide +kernel) | exact .inr (by decide +kernel)) (by rw [isSubtype_type]; kernel_rfl)
theorem list_append_at : typeLookup (.type "list") (Str.ofString "append") = pure (some (.builtin "list.append")) := by rw [typeLookup_type, builtinLookup_eq_fast]; kernel_rfl
theorem list_ga_at : typeLookup (.type "list") (Str.ofString "__getattr__") = pure none := by rw [typeLookup_type, builtinLookup_eq_fast]; kernel_rfl
theorem type_la : typeOf (.builtin "list.append") = pure (.type "method_descriptor") := by show builtinType _ = _; rw [builtinType_eq_fast]; kernel_rfl
theorem md_get : typeLookup (.type "method_descriptor") (Str.ofString "__get__") = pure (some (.builtin "method_descriptor.__get__")) := by rw [typeLookup_type, builtinLookup_eq_fast]; kernel_rfl
theorem md_set : typeLookup (.type "method_descriptor") (Str.ofString "__set__") = pure none := by rw [typeLookup_type, builtinLookup_eq_fast]; kernel_rfl
theorem md_del : typeLookup (.type "method_descriptor") (Str.ofString "__delete__") = pure none := by rw [typeLookup_type, builtinLookup_eq_fast]; kernel_rfl
theorem entry_mdget : entryFor table "method_descriptor.__get__" = some Builtin.«method_descriptor.__get__» := entryFor_of_tree (by kernel_rfl)
theorem args_mdget (a b c : Value) : argsOk "method_descriptor.__get__" ⟨[a, b, c], []⟩ := by unfold argsOk; kernel_rfl
theorem owner_la : (kfb_private% "ownerAndName") "list.append" = ("list", "append") := by first | decide +kernel | kernel_rfl
theorem told_la : Manifest.toldItsClass.contains "list.append" = false := by decide +kernel
section
variable {prog : Program} {w : World} {A : Around} {E : Value → Shared → Prop} {s : Shared} {h₀ : Heap} {L l : Addr} {m : Str → Option Value} {news : List (Addr × Obj)}
theorem run_mdget {vs : Array Value} {M : Model} {P : Fin → Shared → Prop} (hl : s.heap.IsList l vs) (h : P (.done (.ret (.ref s.heap.objs.size))) { s with heap := s.heap.push (boundApp l) }) :
    wpAny M A (Builtin.«method_descriptor.__get__» ⟨[.builtin "list.append", .ref l, .type "list"], []⟩) P E s := by
  unfold Builtin.«method_descriptor.__get__»
  refine wpAny_bind (wpAny_of_eq (a := (.builtin "list.append", some (.ref l), some (.type "list"))) (by first | rfl | kernel_rfl) ?_)
  dsimp only
  refine KFB.if_not told_la ?_
  show wpAny _ _ ((kfb_private% "bindBuiltin") _ _ _) _ _ _
  have e : (kfb_private% "bindBuiltin") "builtin_function_or_method" (.builtin "list.append") (some (.ref l)) = (do (kfb_private% "checkInstance") (.builtin "list.append") (.ref l); ret (← newFields "builtin_function_or_method" [.builtin "list.append", .ref l])) := rfl
  rw [e]
  refine wpAny_bind ?_
  refine wpAny_bind (wpAny_of_eq (a := (Str.ofString "append", Value.type "list")) (by first | rfl | kernel_rfl) ?_)
  dsimp only
  refine wpAny_bind (wpAny_isInstance (T := "list") (b := true) hl.typeIs (by rw [isSubtype_type]; kernel_rfl) ?_)
  refine KFB.if_not rfl ?_
  exact wpAny_pure (wpAny_bind (wpAny_newObj_type (wpAny_pure h)))
end
section
variable {prog : Program} {w : World} {A : Around} {E : Value → Shared → Prop} {h : Heap} {g : Array GenState} {d : Drawn} {t : Nat} {os : OsState} {l : Addr} {vs : Array Value}
theorem bnd_get {R : Result → Shared → Prop} (hl : h.IsList l vs) (hq : R (.ok (.ret (.ref h.objs.size))) ⟨h.push (boundApp l), g, d, t, os⟩) :
    codeAny (model prog w) A (.call (.builtin "method_descriptor.__get__") ⟨[.builtin "list.append", .ref l, .type "list"], []⟩) R ⟨h, g, d, t, os⟩ := by
  have hT5 : (⟨h, g, d, t, os⟩ : Shared).TypeIs (.builtin "list.append") "method_descriptor" := type_la
  exact codeAny_call_builtin slot_md_get.plain entry_mdget (slot_md_get.check _ _ _ _ _ _ _ _ hT5 (args_mdget _ _ _) (run_mdget hl hq))
theorem bnd_entry {tk : Tok} {n : Nat} {Q : Fin → Shared → Prop} (hx : h.get? l = some (W.listOf vs n)) (hq : Q (.done (.ret (.ref h.objs.size))) ⟨h.push (boundApp l), g, d, t, os⟩) :
    wpAny (model prog w) A (Builtin.«object.__getattribute__» ⟨[.ref l, .str (Str.ofString "append") tk], []⟩) Q E ⟨h, g, d, t, os⟩ := by
  have hl : h.IsList l vs := ⟨_, hx, rfl, n, rfl⟩
  have hT : (⟨h, g, d, t, os⟩ : Shared).TypeIs (.ref l) "list" := hl.typeIs
  have hT5 : (⟨h, g, d, t, os⟩ : Shared).TypeIs (.builtin "list.append") "method_descriptor" := type_la
  have f4 := list_append_at
  have f5 := type_la
  have f6 := md_get
  have f7 := md_set
  have f8 := md_del
  repeat (any_goals (first | assumption | (with_reducible refine wpAny_loadPart_at hx ?_) | ((with_reducible show codeAny _ _ (.call (.builtin "method_descriptor.__get__") _) _ _); refine bnd_get hl ?_) | wp_step))
theorem bnd_getAttr {n : Nat} {Q : Value → Shared → Prop} (hx : h.get? l = some (W.listOf vs n)) (hq : ∀ tk', Q (.ref h.objs.size) ⟨h.push (boundApp l), g, d, tk', os⟩) :
    wpAny (model prog w) A (getAttr (.ref l) (Str.ofString "append") true) Q E ⟨h, g, d, t, os⟩ := by
  have hl : h.IsList l vs := ⟨_, hx, rfl, n, rfl⟩
  have hT : ∀ tk', (⟨h, g, d, tk', os⟩ : Shared).TypeIs (.ref l) "list" := fun _ => hl.typeIs
  have f2 := F.slot_list_getattribute.lookup
  have f3 := F.slot_list_getattribute.bind (.ref l)
  unfold getAttr getAttrBy
  repeat (any_goals (first | assumption | exact hT _ | (with_reducible show wpAny _ _ (if (true && onTheHeap (Value.builtin _)) = true then _ else _) _ _ _; refine KFB.if_not rfl ?_) | ((with_reducible show codeAny _ _ (.call (.builtin "list.__getattribute__") _) _ _); refine codeAny_call_builtin F.slot_list_getattribute.plain F.entry_list_ga (F.slot_list_getattribute.check _ _ _ _ _ _ _ _ (hT _) (F.args_list_getattribute_2 _ _) (bnd_entry hx ?_))) | wp_step))
  exact hq _
end
section
variable {prog : Program} {w : World} {A : Around} {E : Value → Shared → Prop} {s : Shared} {h₀ : Heap} {L l u : Addr} {m : Str → Option Value} {news news' : List (Addr × Obj)}
theorem bnd_K {us : List Value} {n : Nat} {Q : Value → Shared → Prop} (F : Fr h₀ L s.heap m) (N : News h₀ L s.heap news) (hm : (l, W.listOf us.toArray n) ∈ news)
    (h : ∀ x h' tk', Fr h₀ L h' m → News h₀ L h' ((x, boundApp l) :: news) → (∀ p ∈ news, p.1 < x) → Q (.ref x) { s with heap := h', toks := tk' }) :
    wpAny (model prog w) A (getAttr (.ref l) (Str.ofString "append") true) Q E s := by
  obtain ⟨hp, g, d, tk, os⟩ := s
  exact bnd_getAttr (N _ hm).1 fun tk' => h _ _ _ (F.push _) (News.push F N _) fun p hp => Heap.lt_size (N p hp).1
def StandsIn (u : Addr) (o : Obj) (h : Heap) : Prop := h.get? u = some o
theorem StandsIn.of {o : Obj} {h : Heap} (N : News h₀ L h news) (hm : (u, o) ∈ news) : StandsIn u o h := (N _ hm).1
theorem app_fields {M : Model} {pos : Pos} {first : List Value} {args : List (Bool × Sem Value)} {Q : Value → Shared → Prop} (hplain : args.any (·.1) = false)
    (h : wpAny M A (evalArgs (.ref u) true args []) (fun x s₁ => StandsIn u (boundApp l) s₁.heap ∧ wpAny M A (call (.ref u) (first ++ x.pos) x.kw) Q E s₁) E s) : wpAny M A (callWith pos (.ref u) first args []) Q E s := by
  unfold callWith
  refine wpAny_bind (wpAny_holding (wpAny_mono h (fun x s₁ h₁ => wpAny_bind (wpAny_standAt ?_)) fun _ _ x => x))
  obtain ⟨ho, hcall⟩ := h₁
  simp only [hplain, List.any_nil, Bool.or_false]
  refine wpAny_bind (m := keeperOf (.ref u)) ?_
  unfold keeperOf
  refine wpAny_bind (wpAny_load ho ?_)
  simp only [show (Value.type "builtin_function_or_method" != Value.type "method") = true by decide, show (Value.type "builtin_function_or_method" == Value.type "builtin_function_or_method" || Value.type "builtin_function_or_method" == Value.type "method-wrapper") = true by decide, if_true]
  refine wpAny_pure ?_
  exact wpAny_bind (wpAny_mono hcall (fun r s₂ hr => wpAny_bind (wpAny_holding (wpAny_point (wpAny_pure hr)))) fun _ _ x => x)
theorem callWith_app {M : Model} {pos : Pos} {first : List Value} {env : Env} {e : Expr} {rest : List Expr} {Q : Value → Shared → Prop} (_N : News h₀ L s.heap news) (_hm : (u, boundApp l) ∈ news)
    (h : wpAny M A (spliced (backTo pos (starEach (e :: rest) env))) (fun vs s₁ => StandsIn u (boundApp l) s₁.heap ∧ wpAny M A (call (.ref u) (first ++ vs)) Q E s₁) E s)
    (he : starEach (e :: rest) env = (false, eval e env) :: starEach rest env := by rfl) (hplain : (backTo pos (starEach rest env)).any (·.1) = false := by rfl) :
    wpAny M A (callWith pos (.ref u) first (backTo pos (starEach (e :: rest) env)) []) Q E s := by
  rw [he] at h ⊢
  refine app_fields (l := l) (by show (false || (backTo pos (starEach rest env)).any (·.1)) = false; rw [hplain]; rfl) ?_
  exact evalArgs_plain h
theorem kind_la : builtinKind "list.append" = some .method := by first | rfl | kernel_rfl
theorem vary_la : (Manifest.varargsMethods.contains "list.append" || false) = false := by decide +kernel
abbrev laLook : Option Manifest.Signature := Manifest.signature? "list.append"
theorem la_some : laLook.isSome = true := by decide +kernel
theorem la_get : laLook = some (laLook.get la_some) := (Option.some_get _).symm
theorem la_args (l : Addr) (x : Value) : Bind.checkArgs "list.append" { machinery := (laLook.get la_some).machinery, full := toString (Bind.lastOf "list") ++ toString "." ++ toString (Bind.lastOf "list.append"), short := (laLook.get la_some).short, receiver := (laLook.get la_some).receiver, params := (laLook.get la_some).params } { pos := [Value.ref l, x] } = pure () := by kernel_rfl
theorem check_la {M : Model} {x : Value} {vs : Array Value} {n : Nat} {Q : Unit → Shared → Prop} (hx : s.heap.get? l = some (W.listOf vs n)) (h : Q () s) : wpAny M A (checkBoundCall "list.append" ⟨[.ref l, x], []⟩) Q E s := by
  unfold checkBoundCall
  have hT : s.TypeIs (.ref l) "list" := ⟨_, hx, rfl⟩
  obtain ⟨hp, g, d, tk, os⟩ := s
  rw [show Manifest.signature? "list.append" = _ from la_get, kind_la]
  dsimp only
  refine KFB.if_not (by decide) ?_
  refine wpAny_bind (wpAny_isInstance (T := "list") (b := false) hT (by rw [isSubtype_type]; kernel_rfl) ?_)
  refine KFB.if_not vary_la ?_
  have f1 : isSubtype (.type "list") (.type "type") = pure false := by rw [isSubtype_type]; kernel_rfl
  unfold isType
  repeat (any_goals (first | assumption | (with_reducible refine wpAny_loadPart_at hx ?_) | wp_step))
  all_goals first | exact wpAny_of_eq (la_args _ _) h | trace_state
theorem bnd_call {x : Value} {us : List Value} {n : Nat} {Q : Value → Shared → Prop} (Fa : Fr h₀ L s.heap m) (N : News h₀ L s.heap news) (hu : (u, boundApp l) ∈ news) (hl : (l, W.listOf us.toArray n) ∈ news) (U : Upd l (W.listOf us.toArray n) (W.listOf (us ++ [x]).toArray (n + 1)) news news')
    (hz : us.length ≤ sizeLine) (h : ∀ h', Fr h₀ L h' m → News h₀ L h' news' → Q .none { s with heap := h' }) : wpAny (model prog w) A (call (.ref u) [x]) Q E s := by
  have ho := (N _ hu).1
  have hx : s.heap.get? l = some (W.listOf us.toArray n) := (N _ hl).1
  refine wpAny_call (codeAny_of_tree ?_)
  show wpAny _ A.in1 (callAny (.ref u) ⟨[x], []⟩) _ _ s
  simp only [callAny]
  refine wpAny_bind (wpAny_load ho ?_)
  simp only [show (Value.type "builtin_function_or_method" == Value.type "method" || Value.type "builtin_function_or_method" == Value.type "builtin_function_or_method" || Value.type "builtin_function_or_method" == Value.type "method-wrapper") = true by decide, if_true]
  refine KFB.if_so (by decide) ?_
  refine wpAny_bind (check_la hx ?_)
  refine wpAny_bind (wpAny_pure (wpAny_pure ?_))
  refine ⟨Code.quiet_builtin _ (by decide +kernel), codeAny_builtin F.entry_list_append ?_⟩
  show wpAny _ _ (updateSeq l (·.push x) >>= fun _ => ret .none) _ _ s
  obtain ⟨pre, post, rfl, rfl, a, b⟩ := U.split
  refine wpAny_bind (wpAny_updateSeq hx rfl (wpAny_pure ?_))
  have hs : Heap.SameBut l s.heap (s.heap.update l fun o => o.mapSeq fun z => z.push x) := Heap.SameBut.update ..
  have e : (s.heap.update l fun o => o.mapSeq fun z => z.push x).get? l = some (W.listOf (us.toArray.push x) (n + 1)) := by rw [Heap.get?_update_self _ hx (by rw [mapSeq_push]; rfl), mapSeq_push]
  rw [List.push_toArray] at e
  exact h _ (Fa.change hs (N _ hl).2.1 (N _ hl).2.2) (news_set N a b hs e)
end
end

section
variable {prog : Program} {w : World} {A : Around} {E : Value → Shared → Prop} {s : Shared} {env : Env} {h₀ : Heap} {Q : Flow → Shared → Prop}
/-- what a turn of a while leaves -/
def WhileEnd (h₀ : Heap) (L : Addr) (n : Nat) (J : Nat → (Str → Option Value) → List (Addr × Obj) → Prop) (Q : Flow → Shared → Prop) (s₁ : Shared) (f : Flow) (s₂ : Shared) : Prop :=
  match f with
  | .ret v => Q (.ret v) s₂
  | .brk => Q .next s₂
  | _ => ∃ k h' tk' m' news', k < n ∧ s₂ = { s₁ with heap := h', toks := tk' } ∧ Fr h₀ L h' m' ∧ News h₀ L h' news' ∧ J k m' news'
theorem WhileEnd.go {L : Addr} {n : Nat} {J : Nat → (Str → Option Value) → List (Addr × Obj) → Prop} {s₁ : Shared} {h' : Heap} {tk' : Nat} {m' : Str → Option Value} {led : List (Addr × Obj)} (k : Nat) (news' : List (Addr × Obj))
    (F : Fr h₀ L h' m') (N : News h₀ L h' led) (hk : k < n) (hs : ∀ p ∈ news', p ∈ led) (j : J k m' news') : WhileEnd h₀ L n J Q s₁ .next { s₁ with heap := h', toks := tk' } :=
  ⟨k, h', tk', m', news', hk, rfl, F, fun p hp => N p (hs p hp), j⟩
theorem while_my {test : Expr} {body : List Stmt} {pos : Pos} {m₀ : Str → Option Value} {news₀ : List (Addr × Obj)} (n : Nat) (J : Nat → (Str → Option Value) → List (Addr × Obj) → Prop)
    (F : Fr h₀ env.locals s.heap m₀) (N : News h₀ env.locals s.heap news₀) (hj : J n m₀ news₀)
    (turn : ∀ n m₁ news₁ h tk, J n m₁ news₁ → Fr h₀ env.locals h m₁ → News h₀ env.locals h news₁ →
      wpAny (model prog w) A (isTrue test env (eval test env)) (fun b s₂ => if b = true then wpAny (model prog w) A (execs body env) (WhileEnd h₀ env.locals n J Q { s with heap := h, toks := tk }) (fun _ _ => False) s₂ else Q .next s₂) (fun _ _ => False) { s with heap := h, toks := tk }) :
    wpAny (model prog w) A (exec (.While test body [] pos) env) Q E s := by
  refine wpAny_While ?_
  refine codeAny_whileLoop (fun n s' => ∃ h' tk m' news', s' = { s with heap := h', toks := tk } ∧ Fr h₀ env.locals h' m' ∧ News h₀ env.locals h' news' ∧ J n m' news') ?_ n ⟨s.heap, s.toks, m₀, news₀, rfl, F, N, hj⟩
  rintro n s' hq0
  refine hide ?_
  intro Gq hGq
  obtain ⟨h', tk, m', news', rfl, F', N', hJ⟩ := hq0
  refine hGq ?_
  clear hGq Gq
  refine wpAny_mono (turn n m' news' h' tk hJ F' N') (fun b s₂ h₂ => ?_) fun _ _ e => e.elim
  cases b with
  | false =>
    simp only [Bool.false_eq_true, if_false] at h₂ ⊢
    exact wpAny_execs_nil h₂
  | true =>
    simp only [if_true] at h₂ ⊢
    refine wpAny_mono h₂ (fun f s₃ h₃ => ?_) fun _ _ e => e.elim
    have fin : (∃ k h'' tk' m' news', k < n ∧ s₃ = { ({ s with heap := h', toks := tk } : Shared) with heap := h'', toks := tk' } ∧ Fr h₀ env.locals h'' m' ∧ News h₀ env.locals h'' news' ∧ J k m' news') →
        ∃ m, m < n ∧ ∃ h' tk m' news', s₃ = { s with heap := h', toks := tk } ∧ Fr h₀ env.locals h' m' ∧ News h₀ env.locals h' news' ∧ J m m' news' := by
      rintro hq0
      refine hide ?_
      intro Gq hGq
      obtain ⟨k, h₂, tk₂, m₂, news₂, hk, rfl, F₂, N₂, J₂⟩ := hq0
      refine hGq ?_
      clear hGq Gq
      exact ⟨k, hk, h₂, tk₂, m₂, news₂, rfl, F₂, N₂, J₂⟩
    cases f with
    | ret v => exact h₃
    | brk => exact h₃
    | next => exact fin h₃
    | cont => exact fin h₃
end

theorem fillit_MFits : PySem.Challenge.rw_in0069_01 = PySem.Challenge.rw_in0069_01 ∧ hd.heap_39 = hd.heap_39 := by
  w_top off
  k_fill
  exact ⟨rfl, rfl⟩
theorem off5 {I a b c d e : Addr} {oa ob oc od oe : Obj} (ha : a ≠ I) (hb : b ≠ I) (hc : c ≠ I) (hd : d ≠ I) (he : e ≠ I) : ∀ p ∈ [(a, oa), (b, ob), (c, oc), (d, od), (e, oe)], p.1 ≠ I :=
  List.forall_mem_cons.mpr ⟨ha, List.forall_mem_cons.mpr ⟨hb, List.forall_mem_cons.mpr ⟨hc, List.forall_mem_cons.mpr ⟨hd, List.forall_mem_cons.mpr ⟨he, fun _ h => nomatch h⟩⟩⟩⟩⟩
def RowAt (h : Heap) (v : Value) (row : List Str) : Prop := ∃ r rv, v = .ref r ∧ h.IsList r rv.toArray ∧ StrsAre rv row
noncomputable def signsOf (piece : Str) : Str := if piece = Str.ofString "?" then Str.ofString "ab" else if piece = Str.ofString "[ab]" then Str.ofString "ab" else if piece = Str.ofString "[!a]" then Str.ofString "b" else piece
noncomputable def inSigns (name : Str) (k : Int) (signs : Str) : Bool := !(Builtin.Str.occurrences signs (Txt.item name (k - 1)) 0 signs.length 1).isEmpty
noncomputable def fitStep (name : Str) (ns : List Int) (piece : Str) : List Int :=
  if piece = Str.ofString "*" then ((List.range (name.length + 1)).map Int.ofNat).filter fun k => ns.any fun a => decide (k ≤ a)
  else (ns.filter fun k => decide (0 < k) && inSigns name k (signsOf piece)).map (· - 1)
def pieceOk (p : Str) : Prop := p = Str.ofString "*" ∨ p = Str.ofString "?" ∨ p = Str.ofString "a" ∨ p = Str.ofString "b" ∨ p = Str.ofString "[ab]" ∨ p = Str.ofString "[!a]"
def fitIn (name : Str) (ns : List Int) : Prop := (∀ n ∈ ns, 0 ≤ n ∧ n ≤ name.length) ∧ ns.length ≤ name.length + 1
theorem fitIn_step {name : Str} {ns : List Int} (h : fitIn name ns) (piece : Str) : fitIn name (fitStep name ns piece) := by
  unfold fitStep
  split
  · refine ⟨fun n hn => ?_, Nat.le_trans (List.length_filter_le _ _) (by rw [List.length_map, List.length_range]; exact Nat.le_refl _)⟩
    obtain ⟨hn, -⟩ := List.mem_filter.mp hn
    obtain ⟨k, hk, rfl⟩ := List.mem_map.mp hn
    have := List.mem_range.mp hk
    show 0 ≤ (k : Int) ∧ (k : Int) ≤ _
    omega
  · refine ⟨fun n hn => ?_, Nat.le_trans (by rw [List.length_map]; exact List.length_filter_le _ _) h.2⟩
    obtain ⟨k, hk, rfl⟩ := List.mem_map.mp hn
    obtain ⟨hk, h2⟩ := List.mem_filter.mp hk
    have h3 := h.1 k hk
    have h4 : 0 < k := of_decide_eq_true (Bool.and_eq_true_iff.mp h2).1
    show 0 ≤ k - 1 ∧ k - 1 ≤ _
    omega


local macro_rules | `(tactic| walk_at "m_hX") => `(tactic| (with_reducible rename NsObj _ _ => nX9))
example : True := by
  k_with_none
  k_with "my m_enter" => ((refine' enter0 ?k1 ?k2 ?k3 ?k5 ?kA ?kF ?kK ?k6 ?k7 ?k8 ?k9 ?kB ?_ ?c2 ?c3 ?c4 ?c5; (case kA => exact rfl); (case kF => exact rfl); (case kK => assumption); (case k1 => k_asm); (case k2 => k_asm); (case k3 => k_asm); (case k5 => k_asm); (case k6 => k_is); (case k7 => k_is); (case k8 => ktr_room); (case k9 => exact BindsTo.of_eq rfl); (case c5 => decide); (case kB => exact locs rfl); (case c2 => exact rfl); (case c3 => exact rfl); (case c4 => exact rfl); k_whole))
  k_with "my call builtin:issubclass" => ((k_here; (with_reducible show wpAny _ _ (call _ [Value.type _, Value.ref _]) _ _ _); k_dflt (refine' call_iss ?k1 ?_; (case k1 => exact News.get (by k_asm) (by k_mem)))))
  k_with "my m_start" => ((refine wpAny_call ?_; k_dflt (walk_at "m_enter")))
  k_with "my m_use" => (((case kB => k_asm); (case kF => k_asm); (case kX => k_asm); (case kN => k_asm); (case kT => k_asm); (case kK => first | exact rfl | assumption); (case kD => ktr_room); (case kU => ktr_units)))
  k_with "my exec For Name Name cons nil" => ((k_here; refine Stop.out ?_))
  k_with "my exec For Tuple Name cons nil" => ((k_here; refine Stop.out ?_))
  k_with "my eval ListComp Call cons" => ((k_here; refine Stop.out ?_))
  k_with "my eval ListComp Name cons" => ((k_here; refine Stop.out ?_))
  k_with "my eval ListComp BinOp cons" => ((k_here; refine Stop.out ?_))
  k_with "my eval ListComp Tuple cons" => ((k_here; refine Stop.out ?_))
  k_with "my m_loc" => (first
  | exact rfl
  | with_reducible assumption
  | (refine Eq.trans (if_neg (by decide)) ?_; walk_at "m_loc")
  | ((with_reducible rename (∀ y : PySem.Str, y ≠ _ → _ = _) => hm9); refine Eq.trans (hm9 _ (by decide)) ?_; walk_at "m_loc"))
  k_with "my truthy ref" => ((k_here; (with_reducible show wpAny _ _ (truthy (Value.ref _)) _ _ _); k_dflt (refine' kgr_truthy ?N ?hm ?hc ?hd ?hf ?_; (case N => k_asm); (case hm => k_mem); (case hc => exact rfl); (case hd => exact rfl); (case hf => ((try simp only [strValues_length, List.length_append, List.length_cons, List.length_nil]); omega)); k_whole; (simp only [snoc_isEmpty, List.isEmpty_nil, Bool.not_true, Bool.not_false]))))
  k_with "my call builtin:list.append" => ((k_here; (with_reducible show wpAny _ _ (call (Value.builtin _) [Value.ref _, _]) _ _ _); k_dflt (refine' my_append ?F ?N ?U ?z ?_; (case F => k_asm); (case N => k_asm); (case U => k_upd); (case z => (rw [PySem.sizeLine_eq]; (try simp only [strValues_length, List.length_append, List.length_cons, List.length_nil]); omega)); k_whole; intro _ _ _; (try k_sweep))))
  k_with "my call builtin:list.pop" => ((k_here; (with_reducible show wpAny _ _ (call (Value.builtin _) [Value.ref _]) _ _ _); k_dflt (refine' my_pop ?F ?N ?U ?z ?_; (case F => k_asm); (case N => k_asm); (case U => k_upd); (case z => (rw [PySem.sizeLine_eq]; (try simp only [strValues_length, List.length_append, List.length_cons, List.length_nil]); omega)); k_whole; intro _ _ _; (try k_sweep))))
  k_with "my subscriptTail Name UnaryOp ref int" => ((k_here; (with_reducible show wpAny _ _ (subscriptTail _ _ (Value.ref _) (Value.int _ _)) _ _ _); k_dflt (refine' my_last ?N ?hm ?_; (case N => k_asm); (case hm => k_mem); k_whole)))
  k_with "my call builtin:str.join" => ((k_here; (with_reducible show wpAny _ _ (call (Value.builtin _) [Value.str _ _, Value.ref _]) _ _ _); k_dflt (refine' join_list (News.isList ?N ?hm) ?S ?ok ?_; (case N => k_asm); (case hm => k_mem); (case S => with_reducible assumption); (case ok => ((simp only [show (Str.ofString "/").length = 1 from rfl, show (Str.ofString "").length = 0 from rfl]); omega)); k_whole; intro _ _)))
  k_with "my binaryOp Add str str" => ((k_here; (with_reducible show wpAny _ _ (binaryOp Operator.Add (Value.str _ _) (Value.str _ _)) _ _ _); k_dflt (refine' SBL.add (hsz := ?z) ?_; (case z => (rw [PySem.sizeLine_eq]; (try simp only [show (Str.ofString "/").length = 1 from rfl]); omega)); k_whole; intro _ _)))
  k_with "my truthy str" => ((k_here; (with_reducible show wpAny _ _ (PySem.truthy (Value.str _ _)) _ _ _); k_dflt (refine' KXt.truthy_pos (K := 16777216) ?za ?zb (Nat.le_refl _) ?_; (case za => omega); (case zb => omega); k_whole; intro _)))
  k_with "my eval Name" => (((k_here; (with_reducible rename NsObj _ _ => nX9); k_dflt (refine' ldVarK (NsObj.ns nX9 (News.get ?N ?hm)) ?hv ?_; (case N => k_asm); (case hm => k_mem); (case hv => with_reducible assumption); k_whole)); (try walk_at "m_hX")))
  k_with "my call builtin:str.join" => ((k_here; (with_reducible show wpAny _ _ (call (Value.builtin _) [Value.str _ _, Value.ref _]) _ _ _); k_dflt (refine' join_list ?hl ?S ?ok ?_; (case hl => exact Heap.IsList.at (by with_reducible assumption) (Fr.keep (by k_asm) _)); (case S => with_reducible assumption); (case ok => ((simp only [show (Str.ofString "/").length = 1 from rfl, show (Str.ofString "").length = 0 from rfl]); omega)); k_whole; intro _ _)))
  k_with "my eval Name" => (((k_here; (with_reducible rename Fr _ _ _ _ => kF); (with_reducible rename NsObj _ _ => nX9); k_dflt (refine' nameG_B kF ?k1 ?k2 ?k3 ?k4 ?k5 ?_ ?k6 ?k7 ?k8 ?k9 ?k10; (case k1 => k_asm); (case k2 => k_asm); (case k3 => k_is); (case k4 => boot_by_name); (case k5 => decide); (case k6 => exact rfl); (case k7 => exact rfl); (case k8 => exact rfl); (case k9 => exact rfl); (case k10 => decide); k_whole)); (try walk_at "m_hF"); (try walk_at "m_hX")))
  k_with "my binaryOp Add ref ref" => ((k_here; (with_reducible show wpAny _ _ (binaryOp Operator.Add (Value.ref _) (Value.ref _)) _ _ _); k_dflt (refine' add_lists ?F ?N (News.isList ?N1 ?m1) (News.isList ?N2 ?m2) ?_ ?z; (case F => k_asm); (case N => k_asm); (case N1 => k_asm); (case m1 => k_mem); (case N2 => k_asm); (case m2 => k_mem); (case z => (rw [PySem.sizeLine_eq]; (try simp only [List.length_append, List.length_cons, List.length_nil]); omega)); k_whole; intro _ _ _; (try k_sweep))))
  k_with "my call builtin:len" => ((k_here; (with_reducible show wpAny _ _ (call _ [Value.ref _]) _ _ _); k_dflt (refine' len_list ?hl ?hf ?_; (case hl => exact Heap.IsList.at (by with_reducible assumption) (Fr.keep (by k_asm) _)); (case hf => ((simp only [List.size_toArray]); omega)); k_whole; (try simp only [List.size_toArray]))))
  k_with "my call type:bytes" => ((k_here; (with_reducible show wpAny _ _ (call (Value.type _) [Value.ref _]) _ _ _); k_dflt (refine' bytes_K ?F ?N (News.isList ?N1 ?m1) ?i ?r ?z ?h ?_; (case F => k_asm); (case N => k_asm); (case N1 => k_asm); (case m1 => k_mem); (case i => with_reducible assumption); (case r => with_reducible assumption); (case z => (rw [PySem.sizeLine_eq]; omega)); (case h => exact rfl); k_whole; intro _ _ _ _ _ _; (try k_sweep))))
  k_with "my eval Name" => (((k_here; (with_reducible rename Fr _ _ _ _ => kF); k_dflt (refine' nameX_L kF ?k2 ?_ ?a ?b; (case b => exact rfl); (case a => exact rfl); (case k2 => walk_at "m_loc"); k_whole); (try dsimp only)); (try walk_at "m_hF")))
  k_with "my eval Name" => (((k_here; (with_reducible rename News _ _ _ _ => kN); k_dflt (refine' nameX_C kN ?hc ?hm ?hd ?_ ?a ?b; (case b => exact rfl); (case a => exact rfl); (case hc => exact rfl); (case hm => k_mem); (case hd => with_reducible assumption); k_whole)); (try walk_at "m_hN")))
  k_with "my m_enterC" => ((refine' enterC0 ?k1 ?k2 ?k3 ?k5 ?kA ?kF ?kK ?k6 ?k7 ?k8 ?k9 ?kB ?kD ?_ ?c2 ?c3 ?c4; (case kA => exact rfl); (case kF => exact rfl); (case kK => assumption); (case k1 => k_asm); (case k2 => k_asm); (case k3 => k_asm); (case k5 => k_asm); (case k6 => k_is); (case k7 => k_is); (case k8 => ktr_room); (case k9 => exact BindsTo.of_eq rfl); (case kB => exact rfl); (case kD => decide +kernel); (case c2 => exact rfl); (case c3 => exact rfl); (case c4 => exact rfl); k_whole))
  k_with "my m_startC" => ((refine wpAny_call ?_; k_dflt (walk_at "m_enterC")))
  k_with "my exec For Name Subscript cons nil" => ((k_here; refine Stop.out ?_))
  k_with "my exec For Name Call cons nil" => ((k_here; refine Stop.out ?_))
  k_with "my pyIter ref" => ((k_here; refine Stop.out ?_))
  k_with "my subscriptTail Name Slice ref ref" => ((k_here; (with_reducible show wpAny _ _ (subscriptTail _ (PySem.Expr.Slice none none (some _) _) (Value.ref _) (Value.ref _)) _ _ _); k_dflt (refine' my_rev ?F ?N ?l ?k ?_ ?s ?t ?z; (case F => k_asm); (case N => k_asm); (case l => exact Heap.IsList.at (by with_reducible assumption) (Fr.keep (by k_asm) _)); (case k => exact IsPart.int _ _); (case s => with_unfolding_all rfl); (case t => kmk_pure); (case z => (rw [PySem.sizeLine_eq]; omega))); k_whole; walk_at "m_i5"))
  k_with "my call type:range" => (((k_here; (with_reducible show wpAny _ _ (call (Value.type _) [Value.int _ _]) _ _ _); (with_reducible rename Fr _ _ _ _ => kF); (with_reducible rename News _ _ _ _ => kN); k_dflt (refine' range1_rows kF kN ?_; k_whole; intro _ _ _ _ _ _ _ _ _)); (try walk_at "m_hF"); (try walk_at "m_hN")))
  k_with "my eval Name" => (((k_here; (with_reducible rename NsObj _ _ => nX9); (with_reducible rename News _ _ _ _ => kN); k_dflt (refine' ldFreeK ?hc ?hv ?_ ?hk ?hl; (case hl => exact rfl); (case hk => exact rfl); (case hc => exact rfl); (case hv => exact ⟨_, News.get kN (by k_mem), by with_reducible assumption⟩); k_whole)); (try walk_at "m_hN"); (try walk_at "m_hX")))
  k_with "my compareOp NotEq ref ref" => ((k_here; (with_reducible show wpAny _ _ (compareOp CmpOp.NotEq (Value.ref _) (Value.ref _)) _ _ _); k_dflt (refine' my_neE (News.isList ?N1 ?m1) ?i1 (News.isList ?N2 ?m2) ?u ?_; (case N1 => k_asm); (case m1 => k_mem); (case i1 => with_reducible assumption); (case N2 => k_asm); (case m2 => k_mem); (case u => units_room); k_whole; (try simp only [List.isEmpty_cons, List.isEmpty_nil, Bool.not_true, Bool.not_false]))))
  k_with "my call builtin:max" => ((k_here; (with_reducible show wpAny _ _ (call (Value.builtin _) [Value.ref _]) _ _ _); k_dflt (refine' kso_max ?F ?N (News.isList ?N1 ?m1) ?i1 ?z ?hh ?_; (case F => k_asm); (case N => k_asm); (case N1 => k_asm); (case m1 => k_mem); (case i1 => with_reducible assumption); (case z => (simp only [List.length_cons]; omega)); (case hh => with_unfolding_all rfl); k_whole; intro _ _ _ _ _ _ _ _)))
  k_with "my call builtin:min" => ((k_here; (with_reducible show wpAny _ _ (call (Value.builtin _) [Value.ref _]) _ _ _); k_dflt (refine' kso_min ?F ?N (News.isList ?N1 ?m1) ?i1 ?z ?hh ?_; (case F => k_asm); (case N => k_asm); (case N1 => k_asm); (case m1 => k_mem); (case i1 => with_reducible assumption); (case z => (simp only [List.length_cons]; omega)); (case hh => with_unfolding_all rfl); k_whole; intro _ _ _ _ _ _ _ _)))
  k_with "my eval Name" => (k_here; dsimp only)
  k_with "my eval Constant int" => (k_here; dsimp only)
  k_with "my eval Constant str" => (k_here; dsimp only)
  k_with "my m_fold" => (((first | (with_reducible show wpAny _ _ (PySem.execs _ _) _ _ _) | (with_reducible show wpAny _ _ (PySem.exec _ _) _ _ _)); (first | ((fail_if_success (have := qk0)); k_fold; (rename PySem.Flow → PySem.Shared → Prop => qk0); (rename PySem.Value → PySem.Shared → Prop => ek0)) | ((fail_if_success (have := qk1)); k_fold; (rename PySem.Flow → PySem.Shared → Prop => qk1); (rename PySem.Value → PySem.Shared → Prop => ek1)) | ((fail_if_success (have := qk2)); k_fold; (rename PySem.Flow → PySem.Shared → Prop => qk2); (rename PySem.Value → PySem.Shared → Prop => ek2)) | ((fail_if_success (have := qk3)); k_fold; (rename PySem.Flow → PySem.Shared → Prop => qk3); (rename PySem.Value → PySem.Shared → Prop => ek3)) | ((fail_if_success (have := qk4)); k_fold; (rename PySem.Flow → PySem.Shared → Prop => qk4); (rename PySem.Value → PySem.Shared → Prop => ek4)) | ((fail_if_success (have := qk5)); k_fold; (rename PySem.Flow → PySem.Shared → Prop => qk5); (rename PySem.Value → PySem.Shared → Prop => ek5)) | ((fail_if_success (have := qk6)); k_fold; (rename PySem.Flow → PySem.Shared → Prop => qk6); (rename PySem.Value → PySem.Shared → Prop => ek6)) | ((fail_if_success (have := qk7)); k_fold; (rename PySem.Flow → PySem.Shared → Prop => qk7); (rename PySem.Value → PySem.Shared → Prop => ek7)) | ((fail_if_success (have := qk8)); k_fold; (rename PySem.Flow → PySem.Shared → Prop => qk8); (rename PySem.Value → PySem.Shared → Prop => ek8)) | ((fail_if_success (have := qk9)); k_fold; (rename PySem.Flow → PySem.Shared → Prop => qk9); (rename PySem.Value → PySem.Shared → Prop => ek9)) | ((fail_if_success (have := qk10)); k_fold; (rename PySem.Flow → PySem.Shared → Prop => qk10); (rename PySem.Value → PySem.Shared → Prop => ek10)) | ((fail_if_success (have := qk11)); k_fold; (rename PySem.Flow → PySem.Shared → Prop => qk11); (rename PySem.Value → PySem.Shared → Prop => ek11)) | ((fail_if_success (have := qk12)); k_fold; (rename PySem.Flow → PySem.Shared → Prop => qk12); (rename PySem.Value → PySem.Shared → Prop => ek12)) | ((fail_if_success (have := qk13)); k_fold; (rename PySem.Flow → PySem.Shared → Prop => qk13); (rename PySem.Value → PySem.Shared → Prop => ek13)) | ((fail_if_success (have := qk14)); k_fold; (rename PySem.Flow → PySem.Shared → Prop => qk14); (rename PySem.Value → PySem.Shared → Prop => ek14)) | ((fail_if_success (have := qk15)); k_fold; (rename PySem.Flow → PySem.Shared → Prop => qk15); (rename PySem.Value → PySem.Shared → Prop => ek15)))))
  k_with "my m_tidy" => (((try clear qk15); (try clear ek15)); ((try clear qk14); (try clear ek14)); ((try clear qk13); (try clear ek13)); ((try clear qk12); (try clear ek12)); ((try clear qk11); (try clear ek11)); ((try clear qk10); (try clear ek10)); ((try clear qk9); (try clear ek9)); ((try clear qk8); (try clear ek8)); ((try clear qk7); (try clear ek7)); ((try clear qk6); (try clear ek6)); ((try clear qk5); (try clear ek5)); ((try clear qk4); (try clear ek4)); ((try clear qk3); (try clear ek3)); ((try clear qk2); (try clear ek2)); ((try clear qk1); (try clear ek1)); ((try clear qk0); (try clear ek0)))
  k_with "my execs cons" => (first | (k_here; k_gentoks) | (k_here; walk_at "m_fold") | (k_here; walk_at "m_tidy"; (with_reducible refine wpAny_execs_cons ?_); (try dsimp only); (try walk_at "m_fold")))
  trivial


set_option maxHeartbeats 8000000 in
theorem fits_spec (w : World) (r : Addr) (row : List Str) (name : Str) (t : Tok) (hln : name.length ≤ 2) (hrl : row.length ≤ 3) (hpo : ∀ p ∈ row, pieceOk p) :
    Spec0 w 230 12 80 (fun h => RowAt h (.ref r) row) [.ref r, .str name t] (fun h v => v = .bool ((row.reverse.foldl (fitStep name) [(name.length : Int)]).any (· == 0))) := by
  intro p loose mean mg mb dp un gd cn cs a ccd cl outer A₀ base h₀ L m s Q E B F X T hk hd hu hpre hret
  walk_at "m_startC"
  intro g L' h₁ tk₁ cells hg F' N' Y' B' X' T'
  refine hide ?_
  intro Gq hGq
  obtain ⟨o3, o2, o1, hE, d3, d2, d1⟩ := PyProof.Rows.CellsAre.three Y'
  refine hGq ?_
  clear hGq Gq
  subst hE
  clear Y'
  replace d1 : o1.data = .cell (some (.str name t)) := d1.trans (by kernel_rfl)
  replace d2 : o2.data = .cell none := d2.trans (by kernel_rfl)
  replace d3 : o3.data = .cell none := d3.trans (by kernel_rfl)
  refine map_hide F' fun m0 hm0 F0 => ?_
  have e1 : m0 (Str.ofString "row") = some (.ref r) := by rw [hm0]; kernel_rfl
  clear hm0 F'
  try dsimp only
  try k_fold
  rw [hg] at hpre
  clear B F X T
  refine hide ?_
  intro Gq hGq
  obtain ⟨_, rv, hl, hls, hrv⟩ := hpre
  refine hGq ?_
  clear hGq Gq
  cases hl
  have hrl2 := SA.length hrv
  (all_goals try walk_at "m_fold")
  k_steps
  refine Stop.go (wpAny_For ?_)
  (all_goals try walk_at "m_fold")
  k_steps
  rename_i P hA lP hB o2' d2' D hC F2 N2 lD
  refine Stop.go ?_
  refine iter_list (fun i m news => ∃ (P : Addr) (vs : List Value) (n : Nat) (o2 o3 : Obj) (c : Option Value), news = [(D, W.listOf rv.reverse.toArray 0), (P, W.listOf vs.toArray n), (L' + 1 + 1 + 1, o3), (L' + 1 + 1, o2), (L' + 1, o1)] ∧
      IntsAre vs ((row.reverse.take i).foldl (fitStep name) [(name.length : Int)]) ∧ fitIn name ((row.reverse.take i).foldl (fitStep name) [(name.length : Int)]) ∧ o2.data = .cell (some (.ref P)) ∧ o3.data = .cell c ∧ L' + 1 + 1 + 1 < P ∧ P ≠ D) rfl (News.isList N2 (by k_mem)) F2 N2
      ⟨P, _, 0, _, _, _, rfl, ?_, ?_, d2', d3, lP.1, ?_⟩ ?_ ?_ ?_
  · exact .cons _ _ .nil
  · refine ⟨fun n hn => ?_, ?_⟩
    · rw [List.mem_singleton.mp hn]
      omega
    · simp
  · exact Nat.ne_of_lt lD.1
  · rintro i m₁ news₁ h hq0 Fi Ni
    ((try dsimp only); (try walk_at "m_fold"))
    refine hide ?_
    intro Gq hGq
    obtain ⟨P, vs, n, o2, o3, c, rfl, -⟩ := hq0
    refine hGq ?_
    clear hGq Gq
    exact News.isList Ni (by k_mem)
  · rintro i v m₁ news₁ h tk I oI hv hq0 hI hne hLI Fi Ni
    ((try dsimp only); (try walk_at "m_fold"))
    refine hide ?_
    intro Gq hGq
    obtain ⟨P', vs, n, o2, o3, c, rfl, hvs, hin, d2, d3, lP', hPD⟩ := hq0
    refine hGq ?_
    clear hGq Gq
    refine hide ?_
    intro Gq hGq
    obtain ⟨piece, tp, rfl, hpi⟩ := SA.get (SA.reverse hrv) hv
    refine hGq ?_
    clear hGq Gq
    have hpk := hpo piece (List.mem_reverse.mp (List.mem_of_getElem? hpi))
    generalize hns : (row.reverse.take i).foldl (fitStep name) [(name.length : Int)] = ns at hvs hin
    have hnext : (row.reverse.take (i + 1)).foldl (fitStep name) [(name.length : Int)] = fitStep name ns piece := by
      rw [take_snoc hpi, List.foldl_append, hns]; rfl
    replace Fi : Fr g L' h _ := Fi
    replace Ni : News g L' h _ := Ni
    k_lt hI
    have lD' := lD.2
    k_lt2 lP'
    by_cases hst : piece = Str.ofString "*"
    · subst hst
      (all_goals try walk_at "m_fold")
      k_steps
      refine Stop.go (eval_comp (cl := [(Str.ofString "places", L' + 1 + 1)]) (by rfl) rfl (by decide) ?_)
      (all_goals try walk_at "m_fold")
      k_steps
      rename_i h1 kF kN tk1 hD tkD t1 u1 v1 hR F3 N3 hK
      refine led_hide N3 fun led hled N4 => map_hide F3 fun m2 hm2 F4 => ?_
      refine Stop.go ?_
      refine comp_range (n := name.length + 1) (m₀ := m2) (news₀ := led) (fun j outs news => news = led ∧ IntsAre outs (((List.range j).map Int.ofNat).filter fun k => ns.any fun a => decide (k ≤ a))) (fun _ _ _ _ => False)
        rfl hR (by omega) (by decide) rfl rfl F4 N4 ⟨rfl, .nil⟩ (fun _ _ _ _ x => x.elim) ?_ ?_
      · rintro j u outs news₁ h2 tk2 I2 oI2 D2 C oC mC nD hj ⟨rfl, hJ⟩ hnC hmC hne2 hI2 hDC hID Fh Nh
        refine wpAny_tests_one ?_
        clear hm2 F3 N3 F4 N4 kF kN
        subst hled
        k_lt hI2
        k_lt2 hDC
        k_lt2 hID
        replace Fh : Fr g L' h2 _ := Fh
        replace Nh : News g L' h2 _ := Nh
        rcases ns with _ | ⟨n0, nr⟩
        · (all_goals try walk_at "m_fold")
          k_steps
          refine MakeEnd.go _ (by k_asm) (by k_asm) (by k_allIn) (by k_allIn) (off3 hne2) ⟨rfl, ?_⟩
          rw [List.range_succ, List.map_append, List.filter_append]
          have e9 : List.filter (fun k => ([] : List Int).any fun a => decide (k ≤ a)) (List.map Int.ofNat [j]) = [] := rfl
          rw [e9, List.append_nil]
          exact hJ
        · (all_goals try walk_at "m_fold")
          k_steps
          · refine MakeEnd.go _ (by k_asm) (by k_asm) (by k_allIn) (by k_allIn) (off3 hne2) ⟨rfl, ?_⟩
            rename_i hM hMa hjM
            rw [List.range_succ, List.map_append, List.filter_append]
            have e8 : ((n0 :: nr).any fun a => decide (((j : Nat) : Int) ≤ a)) = true := List.any_eq_true.mpr ⟨_, hM, decide_eq_true hjM⟩
            have e9 : List.filter (fun k => (n0 :: nr).any fun a => decide (k ≤ a)) (List.map Int.ofNat [j]) = [(j : Int)] := by
              show List.filter _ [(j : Int)] = _
              rw [List.filter_cons, e8]; rfl
            rw [e9]
            exact hJ.append (.cons _ _ .nil)
          · refine MakeEnd.go _ (by k_asm) (by k_asm) (by k_allIn) (by k_allIn) (off3 hne2) ⟨rfl, ?_⟩
            rename_i hM hMa hjM
            rw [List.range_succ, List.map_append, List.filter_append]
            have e8 : ((n0 :: nr).any fun a => decide (((j : Nat) : Int) ≤ a)) = false := by
              rw [List.any_eq_false]
              intro a ha hja
              have := hMa a ha
              have := of_decide_eq_true hja
              omega
            have e9 : List.filter (fun k => (n0 :: nr).any fun a => decide (k ≤ a)) (List.map Int.ofNat [j]) = [] := by
              show List.filter _ [(j : Int)] = _
              rw [List.filter_cons, e8]; rfl
            rw [e9, List.append_nil]
            exact hJ
      · rintro outs news₁ h2 tk2 D2 nD ⟨rfl, hJ⟩ Fh Nh hne2 hlt
        subst hm2
        clear F3 N3 F4 N4 kF kN
        subst hled
        k_lt hlt
        replace Fh : Fr g L' h2 _ := Fh
        replace Nh : News g L' h2 _ := Nh
        have hIh : I < h2.objs.size := Heap.lt_size (Nh (I, oI) (by k_mem)).1
        (all_goals try walk_at "m_fold")
        k_steps
        rename_i hE o2n FE NE d2n
        have hfs : fitStep name ns (Str.ofString "*") = List.filter (fun k => ns.any fun a => decide (k ≤ a)) (List.map Int.ofNat (List.range (name.length + 1))) := by
          unfold fitStep; rw [if_pos rfl]
        refine TurnEnd.goS [(D, _), (D2, _), (L' + 1 + 1 + 1, _), (L' + 1 + 1, _), (L' + 1, _)] FE NE (by k_allIn) (off5 (Nat.ne_of_lt hI.1) (Nat.ne_of_gt hlt.1) (Nat.ne_of_lt hI.2.2.1) (Nat.ne_of_lt hI.2.2.2.1) (Nat.ne_of_lt hI.2.2.2.2)) ⟨D2, outs, nD, o2n, o3, c, rfl, ?_, ?_, d2n, d3, hlt.2.2.2.1, Nat.ne_of_gt hlt.2.1⟩
        · rw [hnext, hfs]; exact hJ
        · rw [hnext]; exact fitIn_step hin _
    · (all_goals try walk_at "m_fold")
      k_steps
      · exact absurd (eq_of_beq (by assumption : (piece == Str.ofString "*") = true)) hst
      rename_i q1 q2 q3 q4 q5 oD q6 q7 q8 q9 lG v hv q10 o3n FG NG d3n
      have hsg : ∃ u, v = .str (signsOf piece) u := by
        have h5 : PyProof.V.Flat v (.str (signsOf piece)) := by
          rcases hpk with rfl | rfl | rfl | rfl | rfl | rfl
          · exact absurd rfl hst
          all_goals exact hv
        have h6 := h5 g
        cases h6
        exact ⟨_, rfl⟩
      have hsl : (signsOf piece).length ≤ 2 := by
        rcases hpk with rfl | rfl | rfl | rfl | rfl | rfl
        · exact absurd rfl hst
        all_goals decide
      obtain ⟨tsg, rfl⟩ := hsg
      refine Stop.go (eval_comp (cl := [(Str.ofString "signs", L' + 1 + 1 + 1), (Str.ofString "name", L' + 1)]) (by rfl) rfl (by decide) ?_)
      (all_goals try walk_at "m_fold")
      k_steps
      with_reducible rename News _ _ _ _ => NG
      with_reducible rename Fr _ _ _ _ => FG
      refine led_hide NG fun led hled N6 => map_hide FG fun m2 hm2 F6 => ?_
      refine Stop.go ?_
      have hvl : vs.length ≤ 1000 := by
        have := hin.2
        rw [hvs.length]; omega
      refine comp_list (vs := vs) (l := P') (m₀ := m2) (news₀ := led) (fun j outs news => news = led ∧ IntsAre outs (((ns.take j).filter fun k => decide (0 < k) && inSigns name k (signsOf piece)).map (· - 1)))
        (fun _ v m' => m' (Str.ofString "k") = some v) (fun _ _ _ _ => False) rfl (by rw [sizeLine_eq]; omega) (by decide) rfl (News.isList NG (by k_mem)) F6 N6 ⟨rfl, .nil⟩ ?_
        (fun _ _ _ _ _ _ _ _ _ _ _ hn k => asg_name rfl rfl hn k) (fun _ _ _ _ x => x.elim) ?_ ?_
      · refine ⟨W.listOf vs.toArray n, ?_⟩
        rintro j outs news h2 ⟨rfl, -⟩ - Nx
        rw [hled] at Nx
        exact News.get Nx (by k_mem)
      · rintro j v outs news₁ h2 tk2 I2 oI2 D2 C oC mC nD hj hvj ⟨rfl, hJ⟩ hnC hmC hne2 hI2 hDC hID Fh Nh
        refine wpAny_tests_one ?_
        refine hide ?_
        intro Gq hGq
        obtain ⟨k, uk, rfl, hnk⟩ := IntsAre.at hvs _ _ hvj
        refine hGq ?_
        clear hGq Gq
        have hk9 := hin.1 k (List.mem_of_getElem? hnk)
        clear hm2 FG NG F6 N6
        subst hled
        k_lt hI2
        k_lt2 hDC
        k_lt2 hID
        replace Fh : Fr g L' h2 _ := Fh
        replace Nh : News g L' h2 _ := Nh
        (all_goals try walk_at "m_fold")
        k_steps
        · rename_i h0k _ hoc
          refine MakeEnd.go _ (by k_asm) (by k_asm) (by k_allIn) (by k_allIn) (off3 hne2) ⟨rfl, ?_⟩
          rw [take_snoc hnk, List.filter_append, List.map_append]
          have e8 : (decide (0 < k) && inSigns name k (signsOf piece)) = false := by unfold inSigns; rw [hoc]; simp
          rw [List.filter_cons, e8]
          simpa using hJ
        · rename_i h0k _ hoc
          refine MakeEnd.go _ (by k_asm) (by k_asm) (by k_allIn) (by k_allIn) (off3 hne2) ⟨rfl, ?_⟩
          rw [take_snoc hnk, List.filter_append, List.map_append]
          have e8 : (decide (0 < k) && inSigns name k (signsOf piece)) = true := by unfold inSigns; rw [hoc, decide_eq_true h0k]; rfl
          rw [List.filter_cons, e8]
          exact hJ.append (.cons _ _ .nil)
        · rename_i h0k
          refine MakeEnd.go _ (by k_asm) (by k_asm) (by k_allIn) (by k_allIn) (off3 hne2) ⟨rfl, ?_⟩
          rw [take_snoc hnk, List.filter_append, List.map_append]
          have e8 : (decide (0 < k) && inSigns name k (signsOf piece)) = false := by rw [decide_eq_false (by omega)]; rfl
          rw [List.filter_cons, e8]
          simpa using hJ
      · rintro outs news₁ h2 tk2 D2 nD ⟨rfl, hJ⟩ Fh Nh hne2 hlt
        rw [hvs.length, List.take_of_length_le (Nat.le_refl _)] at hJ
        subst hm2
        clear FG NG F6 N6
        subst hled
        k_lt hlt
        replace Fh : Fr g L' h2 _ := Fh
        replace Nh : News g L' h2 _ := Nh
        have hIh : I < h2.objs.size := Heap.lt_size (Nh (I, oI) (by k_mem)).1
        (all_goals try walk_at "m_fold")
        k_steps
        rename_i hE o2n FE NE d2n
        have hfs : fitStep name ns piece = List.map (fun x => x - 1) (List.filter (fun k => decide (0 < k) && inSigns name k (signsOf piece)) ns) := by
          unfold fitStep; rw [if_neg hst]
        refine TurnEnd.goS [(D, _), (D2, _), (L' + 1 + 1 + 1, _), (L' + 1 + 1, _), (L' + 1, _)] FE NE (by k_allIn) (off5 (Nat.ne_of_lt hI.1) (Nat.ne_of_gt hlt.2.1) (Nat.ne_of_lt hI.2.2.1) (Nat.ne_of_lt hI.2.2.2.1) (Nat.ne_of_lt hI.2.2.2.2)) ⟨D2, outs, nD, o2n, o3n, _, rfl, ?_, ?_, d2n, d3n, hlt.2.2.2.2.1, Nat.ne_of_gt hlt.2.2.1⟩
        · rw [hnext, hfs]; exact hJ
        · rw [hnext]; exact fitIn_step hin _
  · rintro m₁ news₁ h tk hq0 Fi Ni
    ((try dsimp only); (try walk_at "m_fold"))
    refine hide ?_
    intro Gq hGq
    obtain ⟨P', vs, n, o2, o3, c, rfl, hvs, hin, d2, d3, lP', hPD⟩ := hq0
    refine hGq ?_
    clear hGq Gq
    rw [List.length_reverse, hrl2, List.take_of_length_le (by simp)] at hvs
    replace Fi : Fr g L' h _ := Fi
    replace Ni : News g L' h _ := Ni
    (all_goals try walk_at "m_fold")
    k_steps

    exact hret _ _ _ (fun b o e => Fr.keep (by assumption) b o (hg ▸ e)) rfl

theorem fillit_MTrans : PySem.Challenge.rw_in0069_01 = PySem.Challenge.rw_in0069_01 ∧ hd.heap_39 = hd.heap_39 := by
  w_top off
  k_fill
  exact ⟨rfl, rfl⟩
section
variable {prog : Program} {w : World} {A : Around} {E : Value → Shared → Prop} {s : Shared} {h₀ : Heap} {L : Addr} {m : Str → Option Value} {news : List (Addr × Obj)}
theorem keyErr_sub : isSubtype (.type "KeyError") (.type "LookupError") = pure true := by rw [isSubtype_type]; kernel_rfl
noncomputable def IntKeys (es : List DictEntry) : Bool := es.all fun e => match e.key with | .int x _ => decide (e.hash = hashInt x) | _ => false
theorem mapOf_I {h : Heap} {a : Addr} {es : Array DictEntry} {n : Nat} (ho : h.get? a = some ⟨.type "dict", none, .dict es n, #[]⟩) (hk : IntKeys es.toList = true) : h.MapOf (intKind prog w) a (fun k => findBy Value.isInt es k) := by
  refine ⟨_, es, n, ho, ⟨rfl, rfl, rfl⟩, rfl, fun e he => ?_, fun _ => rfl⟩
  have := List.all_eq_true.mp hk e (Array.mem_toList_iff.mpr he)
  cases e1 : e.key with
  | int x t => rw [e1] at this; exact ⟨x, intKind_is prog w x t, of_decide_eq_true this⟩
  | _ => rw [e1] at this; cases this
theorem look_keep {a : Addr} {f : Int → Option Value} {c : Nat} {Q : Builtin.Str.Mapped → Shared → Prop} (hh : A.handled = none) (hm : s.heap.MapOf (intKind prog w) a f) (hs : (a == sysModules) = false) (hf : f c = none)
    (h : ∀ h' tk, (∀ b o, s.heap.get? b = some o → h'.get? b = some o) → Q .keep { s with heap := h', toks := tk }) : wpAny (model prog w) A (Builtin.Str.tableLookup (.ref a) c) Q E s := by
  unfold Builtin.Str.tableLookup
  refine wpAny_bind (wpAny_attempt (wpAny_bind (wpAny_mkInt' ?_)))
  refine wpAny_getItem_missing_of (intKind_is prog w c _) hs hh hm hf fun h' e hn => ?_
  have hT : (⟨h', s.gens, s.drawn, s.toks + 1 + 1, s.os⟩ : Shared).TypeIs (.ref e) "KeyError" := ⟨_, hn.there.choose_spec.choose_spec.1, hn.there.choose_spec.choose_spec.2.1⟩
  refine wpAny_bind (wpAny_isInstance hT keyErr_sub ?_)
  rw [if_pos rfl]
  exact wpAny_bind (wpAny_rule (wpAny_pure (h _ _ hn.keeps)))
theorem call_translate {a : Addr} {f : Int → Option Value} {c : Nat} {t : Tok} {Q : Value → Shared → Prop} (hh : A.handled = none) (hm : ∀ prog w, s.heap.MapOf (intKind prog w) a f) (hs : (a == sysModules) = false) (hf : f c = none) (hc : (c < 128 : Bool) = true)
    (h : ∀ t' h' tk, (∀ b o, s.heap.get? b = some o → h'.get? b = some o) → Q (.str ⟨#[c]⟩ t') { s with heap := h', toks := tk }) :
    wpAny (model prog w) A (call (.builtin "str.translate") [.str ⟨#[c]⟩ t, .ref a]) Q E s := by
  refine call_meets F.slot_str_translate (typeIs_str _ _ _) F.entry_str_translate (F.args_str_translate_2 _ _)
    (S := fun A R s => A.handled = none ∧ (∀ prog w, s.heap.MapOf (intKind prog w) a f) ∧ ∀ t' h' tk, (∀ b o, s.heap.get? b = some o → h'.get? b = some o) → R (.ok (.ret (.str ⟨#[c]⟩ t'))) { s with heap := h', toks := tk }) ?_ ⟨hh, hm, h⟩
  clear hh hm h
  rintro prog w A R s ⟨hh, hm, h⟩
  unfold Builtin.«str.translate»
  refine wpAny_bind (wpAny_of_eq (a := (.str ⟨#[c]⟩ t, ⟨#[c]⟩, .ref a)) rfl ?_)
  dsimp only
  have hl : ((⟨#[c]⟩ : Str).length == 0) = false := rfl
  rw [hl]
  simp only [Bool.false_eq_true, if_false]
  have ha : (⟨#[c]⟩ : Str).cps.all (fun x => decide (x < 128)) = true := by simpa using hc
  rw [ha]
  refine wpAny_bind ?_
  rw [← Array.forIn_toList]
  show wpAny _ _ (forIn [c] _ _) _ _ _
  rw [List.forIn_cons]
  refine wpAny_bind ?_
  dsimp only
  have h0 : Builtin.Str.tooLong 0 = false := rfl
  rw [h0]
  simp only [Bool.false_eq_true, if_false, if_true, List.lookup_nil]
  refine wpAny_bind (look_keep (A := A.in1) hh (hm _ _) hs hf fun h' tk hk => ?_)
  dsimp only
  refine wpAny_bind (wpAny_pure ?_)
  dsimp only
  refine wpAny_pure ?_
  dsimp only
  rw [List.forIn_nil]
  refine wpAny_pure ?_
  dsimp only
  have h1 : Builtin.Str.tooLong (0 + 1) = false := rfl
  rw [h1]
  simp only [Bool.false_eq_true, if_false]
  unfold retStr
  have h2 : List.foldl (fun (acc : Array Nat) (p : Str) => acc ++ p.cps) #[] [(⟨#[c]⟩ : Str)].reverse = #[c] := by simp
  rw [h2]
  exact wpAny_bind (wpAny_mkStr (wpAny_pure (h _ _ _ hk)) (show 1 ≤ sizeLine from Nat.le_of_ble_eq_true rfl))
theorem get_translate {M : Model} {t : Tok} {pl : Sem Bool} {x : PySem.Str} {Q : Value × List Value → Shared → Prop} (h : Q (.builtin "str.translate", [.str x t]) s) : wpAny M A (getMethod (.str x t) "translate" pl) Q E s := by
  with_reducible exact GM.of (.str x t) (typeIs_str _ _ _) F.slot_str_translate F.type_str_translate GM.noRef h
theorem fr_kept {h h' : Heap} (F : Fr h₀ L h m) (k : Kept h h') : Fr h₀ L h' m := ⟨F.ns.keeps k, fun b o e => k b o (F.keep b o e), F.above⟩
theorem news_kept {h h' : Heap} (N : News h₀ L h news) (k : Kept h h') : News h₀ L h' news := fun q hq => ⟨k _ _ (N q hq).1, (N q hq).2⟩
theorem map59 {h : Heap} (X : (hd.heap_39 w.params).In h) : ∃ f : Int → Option Value, f 97 = none ∧ f 98 = none ∧ ∀ prog w', h.MapOf (intKind prog w') 59 f := by
  have e : ∃ es n, (hd.heap_39 w.params).lookup 59 = some ⟨.type "dict", none, .dict es n, #[]⟩ ∧ IntKeys es.toList = true ∧ findBy Value.isInt es 97 = none ∧ findBy Value.isInt es 98 = none := by
    refine ⟨_, _, by k_is, ?_, ?_, ?_⟩
    · decide +kernel
    · decide +kernel
    · decide +kernel
  obtain ⟨es, n, hl, hk, h1, h2⟩ := e
  exact ⟨_, h1, h2, fun prog w' => mapOf_I (X _ _ hl) hk⟩
theorem call_trans59 {c : Nat} {t : Tok} {Q : Value → Shared → Prop} (F : Fr h₀ L s.heap m) (N : News h₀ L s.heap news) (X : (hd.heap_39 w.params).In h₀) (hh : A.handled = none) (hc : c = 97 ∨ c = 98)
    (h : ∀ t' h' tk, Fr h₀ L h' m → News h₀ L h' news → Q (.str ⟨#[c]⟩ t') { s with heap := h', toks := tk }) :
    wpAny (model prog w) A (call (.builtin "str.translate") [.str ⟨#[c]⟩ t, .ref 59]) Q E s := by
  obtain ⟨f, h1, h2, hm⟩ := map59 (X.keeps F.keep)
  refine call_translate hh hm (by decide) (by rcases hc with rfl | rfl <;> assumption) (by rcases hc with rfl | rfl <;> rfl) fun t' h' tk k => h t' h' tk (fr_kept F k) (news_kept N k)
end

example : True := by
  k_with_none
  k_with "my m_enter" => ((refine' enter0 ?k1 ?k2 ?k3 ?k5 ?kA ?kF ?kK ?k6 ?k7 ?k8 ?k9 ?kB ?_ ?c2 ?c3 ?c4 ?c5; (case kA => exact rfl); (case kF => exact rfl); (case kK => assumption); (case k1 => k_asm); (case k2 => k_asm); (case k3 => k_asm); (case k5 => k_asm); (case k6 => k_is); (case k7 => k_is); (case k8 => ktr_room); (case k9 => exact BindsTo.of_eq rfl); (case c5 => decide); (case kB => exact locs rfl); (case c2 => exact rfl); (case c3 => exact rfl); (case c4 => exact rfl); k_whole))
  k_with "my call builtin:issubclass" => ((k_here; (with_reducible show wpAny _ _ (call _ [Value.type _, Value.ref _]) _ _ _); k_dflt (refine' call_iss ?k1 ?_; (case k1 => exact News.get (by k_asm) (by k_mem)))))
  k_with "my m_start" => ((refine wpAny_call ?_; k_dflt (walk_at "m_enter")))
  k_with "my getMethod str" => ((k_here; with_reducible refine get_translate ?_))
  k_with "my call builtin:str.translate" => ((k_here; k_dflt (refine' call_trans59 ?F ?N ?X ?hh ?hc ?_; (case F => k_asm); (case N => k_asm); (case X => k_asm); (case hh => exact rfl); (case hc => assumption); k_whole; intro _ _ _ _ _; (try k_sweep))))
  k_with "my eval Name" => (k_here; dsimp only)
  k_with "my eval Constant int" => (k_here; dsimp only)
  k_with "my eval Constant str" => (k_here; dsimp only)
  k_with "my m_fold" => (((first | (with_reducible show wpAny _ _ (PySem.execs _ _) _ _ _) | (with_reducible show wpAny _ _ (PySem.exec _ _) _ _ _)); (first | ((fail_if_success (have := qk0)); k_fold; (rename PySem.Flow → PySem.Shared → Prop => qk0); (rename PySem.Value → PySem.Shared → Prop => ek0)) | ((fail_if_success (have := qk1)); k_fold; (rename PySem.Flow → PySem.Shared → Prop => qk1); (rename PySem.Value → PySem.Shared → Prop => ek1)) | ((fail_if_success (have := qk2)); k_fold; (rename PySem.Flow → PySem.Shared → Prop => qk2); (rename PySem.Value → PySem.Shared → Prop => ek2)) | ((fail_if_success (have := qk3)); k_fold; (rename PySem.Flow → PySem.Shared → Prop => qk3); (rename PySem.Value → PySem.Shared → Prop => ek3)) | ((fail_if_success (have := qk4)); k_fold; (rename PySem.Flow → PySem.Shared → Prop => qk4); (rename PySem.Value → PySem.Shared → Prop => ek4)) | ((fail_if_success (have := qk5)); k_fold; (rename PySem.Flow → PySem.Shared → Prop => qk5); (rename PySem.Value → PySem.Shared → Prop => ek5)) | ((fail_if_success (have := qk6)); k_fold; (rename PySem.Flow → PySem.Shared → Prop => qk6); (rename PySem.Value → PySem.Shared → Prop => ek6)) | ((fail_if_success (have := qk7)); k_fold; (rename PySem.Flow → PySem.Shared → Prop => qk7); (rename PySem.Value → PySem.Shared → Prop => ek7)) | ((fail_if_success (have := qk8)); k_fold; (rename PySem.Flow → PySem.Shared → Prop => qk8); (rename PySem.Value → PySem.Shared → Prop => ek8)) | ((fail_if_success (have := qk9)); k_fold; (rename PySem.Flow → PySem.Shared → Prop => qk9); (rename PySem.Value → PySem.Shared → Prop => ek9)) | ((fail_if_success (have := qk10)); k_fold; (rename PySem.Flow → PySem.Shared → Prop => qk10); (rename PySem.Value → PySem.Shared → Prop => ek10)) | ((fail_if_success (have := qk11)); k_fold; (rename PySem.Flow → PySem.Shared → Prop => qk11); (rename PySem.Value → PySem.Shared → Prop => ek11)) | ((fail_if_success (have := qk12)); k_fold; (rename PySem.Flow → PySem.Shared → Prop => qk12); (rename PySem.Value → PySem.Shared → Prop => ek12)) | ((fail_if_success (have := qk13)); k_fold; (rename PySem.Flow → PySem.Shared → Prop => qk13); (rename PySem.Value → PySem.Shared → Prop => ek13)) | ((fail_if_success (have := qk14)); k_fold; (rename PySem.Flow → PySem.Shared → Prop => qk14); (rename PySem.Value → PySem.Shared → Prop => ek14)) | ((fail_if_success (have := qk15)); k_fold; (rename PySem.Flow → PySem.Shared → Prop => qk15); (rename PySem.Value → PySem.Shared → Prop => ek15)))))
  k_with "my m_tidy" => (((try clear qk15); (try clear ek15)); ((try clear qk14); (try clear ek14)); ((try clear qk13); (try clear ek13)); ((try clear qk12); (try clear ek12)); ((try clear qk11); (try clear ek11)); ((try clear qk10); (try clear ek10)); ((try clear qk9); (try clear ek9)); ((try clear qk8); (try clear ek8)); ((try clear qk7); (try clear ek7)); ((try clear qk6); (try clear ek6)); ((try clear qk5); (try clear ek5)); ((try clear qk4); (try clear ek4)); ((try clear qk3); (try clear ek3)); ((try clear qk2); (try clear ek2)); ((try clear qk1); (try clear ek1)); ((try clear qk0); (try clear ek0)))
  k_with "my execs cons" => (first | (k_here; k_gentoks) | (k_here; walk_at "m_fold") | (k_here; walk_at "m_tidy"; (with_reducible refine wpAny_execs_cons ?_); (try dsimp only); (try walk_at "m_fold")))
  trivial

set_option maxHeartbeats 8000000 in
theorem escape_spec (w : World) (c : Nat) (t : Tok) (hc : c = 97 ∨ c = 98) : Spec0 w 69 2 16 (fun _ => True) [.str ⟨#[c]⟩ t] (fun _ v => ∃ t, v = .str ⟨#[c]⟩ t) := by
  intro p loose mean mg mb dp un gd cn cs a ccd cl outer A₀ base h₀ L m s Q E B F X T hk hd hu hpre hret
  walk_at "m_start"
  intro g L' h₁ hg F' N' B' X' T'
  (try dsimp only)
  clear B F X T
  (all_goals try walk_at "m_fold")
  k_steps
  exact hret _ _ _ (fun b o e => Fr.keep (by assumption) b o (hg ▸ e)) ⟨_, rfl⟩

section
open PySem PySem.W PySem.Calls PyProof.Rows PySem.Builtin PySem.Builtin.ObjectAttr
theorem slot_fn_set : Slot "function" "__setattr__" "object.__setattr__" :=
  .of (owner := "object") (n := "__setattr__") (by rw [typeLookup_type, builtinLookup_eq_fast]; kernel_rfl) (by decide +kernel) (by decide +kernel) (by decide +kernel)
    (by first | exact .inl (by decide +kernel) | exact .inr (by decide +kernel)) (by rw [isSubtype_type]; kernel_rfl)
theorem fn_read : typeLookup (.type "function") (Str.ofString "read") = pure none := by rw [typeLookup_type, builtinLookup_eq_fast]; kernel_rfl
theorem fn_mro : mroOf (.type "function") = pure [.type "function", .type "object"] := by rw [mroOf_type]; kernel_rfl
theorem fn_pass (self : Value) : refuseLoop self "__setattr__" [.type "function", .type "object"] = pure () := by kernel_rfl
section
variable {prog : Program} {w : World} {A : Around} {E : Value → Shared → Prop} {h : Heap} {t : Tok} {g : Array GenState} {d : Drawn} {os : OsState}
theorem at_store {M : Model} {a : Addr} {nv v : Value} {name : Str} {s : Shared} {Q : Fin → Shared → Prop} (hs : Stop (wpAny M A (storeInDict a nv name v) Q E s)) : wpAny M A (storeInDict a nv name v) Q E s := hs
abbrev dictObj : Obj := { cls := .type "dict", data := .dict #[] }
theorem fn_entry {fd : FuncData} {f : Addr} {v : Value} {tk : Tok} {Q : Fin → Shared → Prop} (ho : h.get? f = some { cls := .type "function", data := .func fd }) (hq : ∀ h' tk', h'.get? f = some { cls := .type "function", dict := some h.objs.size, data := .func fd } → h'.Ns h.objs.size (fun x => if x = Str.ofString "read" then some v else none) → (∀ b o, b ≠ f → h.get? b = some o → h'.get? b = some o) → Q (.done (.ret .none)) ⟨h', g, d, tk', os⟩) :
   wpAny (model prog w) A (Builtin.«object.__setattr__» ⟨[.ref f, .str (Str.ofString "read") tk, v], []⟩) Q E ⟨h, g, d, t, os⟩ := by
  have f1 := fn_read
  have f2 := fn_mro
  have f3 := fn_pass (.ref f)
  unfold Builtin.«object.__setattr__»
  repeat (first | (with_reducible refine at_store ?_) | rw [refuse_eq] | rw [f3] | rw [f2] | rw [f1] | (with_reducible refine wpAny_loadPart_at ho ?_) | wp_step)
  refine Stop.go ?_
  have hx₁ : (h.push dictObj).get? f = some { cls := .type "function", data := .func fd } := Heap.get?_push_of_some _ ho
  have hxs : f ≠ h.objs.size := Nat.ne_of_lt (Heap.lt_size ho)
  have hgd : ((h.push dictObj).update f fun o => { cls := o.cls, dict := some h.objs.size, data := o.data, slots := o.slots }).get? h.objs.size = some dictObj :=
    (Heap.get?_update_ne _ _ _ _ hxs.symm).trans (Heap.get?_push_at rfl rfl)
  have hnd : ((h.push dictObj).update f fun o => { cls := o.cls, dict := some h.objs.size, data := o.data, slots := o.slots }).Ns h.objs.size (fun _ => none) :=
    ⟨_, #[], _, hgd, rfl, fun e he => absurd he (by simp), fun _ => rfl⟩
  unfold storeInDict newKeyGuard
  refine wpAny_bind (wpAny_pure (wpAny_bind (wpAny_nsSet1 (Heap.Ns1.of_empty hnd) fun h' hn' hs => ?_)))
  obtain ⟨oD, esD, epD, hoD, hdD, hcD⟩ := hn'.count (Within.cons _ v Within.nil)
  refine wpAny_bind (wpAny_lookBehind hoD (by rw [hdD]; exact pastItsLine_dict (Nat.le_trans hcD (by rw [List.length_cons, List.length_nil, sizeLine_eq]; omega))) ?_)
  wp_walk
  refine hq h' _ ?_ hn'.ns fun b o hb e => ?_
  · exact (hs.2 f hxs).trans (Heap.get?_update_self _ hx₁ rfl)
  · exact (hs.2 b (Nat.ne_of_lt (Heap.lt_size e))).trans ((Heap.get?_update_ne _ _ _ _ hb).trans (Heap.get?_push_of_some _ e))
theorem fn_set {fd : FuncData} {f : Addr} {v : Value} {Q : Unit → Shared → Prop} (ho : h.get? f = some { cls := .type "function", data := .func fd })  (hq : ∀ h' tk', h'.get? f = some { cls := .type "function", dict := some h.objs.size, data := .func fd } → h'.Ns h.objs.size (fun x => if x = Str.ofString "read" then some v else none) → (∀ b o, b ≠ f → h.get? b = some o → h'.get? b = some o) → Q () ⟨h', g, d, tk', os⟩) :
   wpAny (model prog w) A (setAttr (.ref f) (Str.ofString "read") v) Q E ⟨h, g, d, t, os⟩ := by
  have f3 := slot_fn_set.lookup
  have f4 := slot_fn_set.bind (.ref f)
  unfold setAttr callSpecial? specialOf
  repeat (any_goals (first | assumption | (with_reducible refine wpAny_loadPart_at ho ?_) | wp_step))
  refine codeAny_call_builtin slot_fn_set.plain F.entry_object_setattr (slot_fn_set.check _ _ _ _ _ _ _ _ ⟨_, ho, rfl⟩ (F.args_object_setattr_3 _ _ _) (fn_entry ho fun h' tk' k1 k2 k3 => ?_))
  repeat (any_goals (first | assumption | wp_step))
  exact hq _ _ k1 k2 k3
theorem fn_ga : typeLookup (.type "function") "__getattribute__" = pure (some (.builtin "object.__getattribute__")) := by rw [typeLookup_type, builtinLookup_eq_fast]; kernel_rfl
theorem fn_g : typeLookup (.type "function") "__getattr__" = pure none := by rw [typeLookup_type, builtinLookup_eq_fast]; kernel_rfl
theorem slot_fn_ga : Slot "function" "__getattribute__" "object.__getattribute__" :=
  .of (owner := "object") (n := "__getattribute__") (by rw [typeLookup_type, builtinLookup_eq_fast]; kernel_rfl) (by decide +kernel) (by decide +kernel) (by decide +kernel)
    (by first | exact .inl (by decide +kernel) | exact .inr (by decide +kernel)) (by rw [isSubtype_type]; kernel_rfl)
theorem meets_fn_read (fd : FuncData) (f D : Addr) (v : Value) (m : Str → Option Value) (u : Tok) (hm : m (Str.ofString "read") = some v) :
    Meets (Builtin.«object.__getattribute__» ⟨[.ref f, .str (Str.ofString "read") u], []⟩) (fun A R s => s.heap.get? f = some { cls := .type "function", dict := some D, data := .func fd } ∧ s.heap.Ns D m ∧ ∀ tk, R (.ok (.ret v)) { s with toks := tk }) :=
  Meets.of_wp fun prog w A R s hs => by
    obtain ⟨hp, g, d, tk, os⟩ := s
    obtain ⟨hx, hn, hs⟩ := hs
    have hT : (⟨hp, g, d, tk, os⟩ : Shared).TypeIs (.ref f) "function" := ⟨_, hx, rfl⟩
    have f1 := fn_read
    unfold Builtin.«object.__getattribute__»
    repeat (any_goals (first | assumption | (with_reducible refine wpAny_nsGet hn ?_; rw [hm]) | (with_reducible refine wpAny_loadPart_at hx ?_) | wp_step))
    exact ⟨v, rfl, hs _⟩
def HandsOut (h : Heap) (v : Value) : Prop := ∃ r fr, v = .ref r ∧ h.get? r = some { cls := .type "function", data := .func fr }
theorem wpAny_handedOut_fn {v : Value} {Q : Value → Shared → Prop} (hr : HandsOut h v) (hq : Q v ⟨h, g, d, t, os⟩) : wpAny (model prog w) A (handedOut v) Q E ⟨h, g, d, t, os⟩ := by
  obtain ⟨r, fr, rfl, ho⟩ := hr
  unfold handedOut
  repeat (any_goals (first | assumption | (with_reducible refine wpAny_loadPart_at ho ?_) | wp_step))
theorem at_getAttr {M : Model} {o : Value} {name : Str} {b : Bool} {s : Shared} {Q : Value → Shared → Prop} (hs : Stop (wpAny M A (getAttr o name b) Q E s)) : wpAny M A (getAttr o name b) Q E s := hs
theorem fn_getAttr {fd : FuncData} {f D : Addr} {v : Value} {m : Str → Option Value} {Q : Value → Shared → Prop} (ho : h.get? f = some { cls := .type "function", dict := some D, data := .func fd }) (hn : h.Ns D m) (hm : m (Str.ofString "read") = some v) (hr : HandsOut h v) (hq : ∀ tk', Q v ⟨h, g, d, tk', os⟩) :
   wpAny (model prog w) A (getAttr (.ref f) (Str.ofString "read")) Q E ⟨h, g, d, t, os⟩ := by
  have hT : ∀ tk', (⟨h, g, d, tk', os⟩ : Shared).TypeIs (.ref f) "function" := fun _ => ⟨_, ho, rfl⟩
  have f3 := slot_fn_ga.lookup
  have f4 := slot_fn_ga.bind (.ref f)
  unfold getAttr getAttrBy
  repeat (any_goals (first | assumption | exact hT _ | ((with_reducible show wpAny _ _ (call (Value.builtin "object.__getattribute__") _) _ _ _); refine call_meets slot_fn_ga (hT _) F.entry_object_getattribute (F.args_object_getattribute_2 _ _) (meets_fn_read fd f D v m _ hm) ⟨ho, hn, fun tk => ?_⟩) | wp_step))
  show wpAny _ _ (handedOut v) _ _ _
  refine wpAny_handedOut_fn ?_ (hq _)
  exact hr
theorem fn_get {fd fr : FuncData} {f D r : Addr} {m : Str → Option Value} {pl : Sem Bool} {Q : Value × List Value → Shared → Prop} (ho : h.get? f = some { cls := .type "function", dict := some D, data := .func fd }) (hn : h.Ns D m) (hm : m (Str.ofString "read") = some (.ref r)) (hr : h.get? r = some { cls := .type "function", data := .func fr }) (hq : ∀ tk', Q (.ref r, []) ⟨h, g, d, tk', os⟩) :
   wpAny (model prog w) A (getMethod (.ref f) (Str.ofString "read") pl) Q E ⟨h, g, d, t, os⟩ := by
  have f1 := fn_read
  have f2 := fn_ga
  have f3 := fn_g
  have hc : (Manifest.canonical "object.__getattribute__" != "object.__getattribute__") = false := by kernel_rfl
  unfold getMethod specialOf
  iterate 18 (any_goals (first | assumption | (with_reducible refine at_getAttr ?_) | rw [hc] | rw [f1] | rw [f2] | rw [f3] | (with_reducible refine wpAny_loadPart_at ho ?_) | wp_step))
  refine wpAny_bind (wpAny_bind (wpAny_typeOf (T := "function") ⟨_, ho, rfl⟩ ?_))
  rw [f1]
  refine wpAny_pure ?_
  dsimp only
  exact wpAny_bind (fn_getAttr ho hn hm ⟨r, fr, rfl, hr⟩ fun tk => wpAny_pure (hq _))
end

abbrev fnObj0 (fd : FuncData) : Obj := { cls := .type "function", data := .func fd }
abbrev fnObjD (fd : FuncData) (D : Addr) : Obj := { cls := .type "function", dict := some D, data := .func fd }
abbrev readNs (v : Value) : Str → Option Value := fun x => if x = Str.ofString "read" then some v else none
section
variable {prog : Program} {w : World} {A : Around} {E : Value → Shared → Prop} {s : Shared} {h₀ : Heap} {L f : Addr} {m : Str → Option Value} {news : List (Addr × Obj)}
theorem setattr_K {fd : FuncData} {v : Value} {gn : Obj → List (Addr × Obj)} {Q : Unit → Shared → Prop} (F : Fr h₀ L s.heap m) (N : News h₀ L s.heap news) (U : UpdF f (fnObj0 fd) news gn)
    (h : ∀ D oD h' tk', Fr h₀ L h' m → News h₀ L h' ((D, oD) :: gn (fnObjD fd D)) → NsObj oD (readNs v) → (∀ p ∈ news, p.1 < D) → Q () { s with heap := h', toks := tk' }) :
    wpAny (model prog w) A (setAttr (.ref f) (Str.ofString "read") v) Q E s := by
  obtain ⟨pre, post, rfl, hgr, h1, h2⟩ := U.split
  have hm := N (f, fnObj0 fd) (List.mem_append_right _ (.head _))
  obtain ⟨hp, g, d, tk, os⟩ := s
  refine fn_set hm.1 fun h' tk' k1 k2 k3 => ?_
  obtain ⟨oD, ho, hn⟩ := nsObj_of k2
  have hLs : L < hp.objs.size := F.ns.lt
  have fresh : ∀ b, L < b → h₀.get? b = none := fun b hb => Heap.get?_none_of_le (Nat.le_trans F.above (Nat.le_of_lt hb))
  refine h hp.objs.size oD h' tk' ⟨F.ns.at' fun o e => k3 _ o (fun q => hm.2.1 q.symm) e, fun b o e => k3 b o (fun q => by rw [q, hm.2.2] at e; cases e) (F.keep b o e), F.above⟩ (fun q hq => ?_) hn fun p hp' => Heap.lt_size (N p hp').1
  rcases List.mem_cons.mp hq with rfl | hq
  · exact ⟨ho, Nat.ne_of_gt hLs, fresh _ hLs⟩
  · rw [hgr] at hq
    rcases List.mem_append.mp hq with hq | hq
    · have n := N q (List.mem_append_left _ hq)
      exact ⟨k3 _ _ (h1 q hq) n.1, n.2⟩
    · rcases List.mem_cons.mp hq with rfl | hq
      · exact ⟨k1, hm.2⟩
      · have n := N q (List.mem_append_right _ (.tail _ hq))
        exact ⟨k3 _ _ (h2 q hq) n.1, n.2⟩
theorem getread_K {fd fr : FuncData} {D r : Addr} {oD : Obj} {pl : Sem Bool} {Q : Value × List Value → Shared → Prop} (N : News h₀ L s.heap news) (h1 : (f, fnObjD fd D) ∈ news) (h2 : (D, oD) ∈ news) (hn : NsObj oD (readNs (.ref r))) (h3 : (r, fnObj0 fr) ∈ news)
    (h : ∀ tk', Q (.ref r, []) { s with toks := tk' }) : wpAny (model prog w) A (getMethod (.ref f) (Str.ofString "read") pl) Q E s := by
  obtain ⟨hp, g, d, tk, os⟩ := s
  exact fn_get (N _ h1).1 (hn.ns (N _ h2).1) (if_pos rfl) (N _ h3).1 h
end
end

/-- what a code object's table may hold that takes a def and, behind it, a lambda -/
abbrev psOne (l c : Nat) (c' : Addr) : Array Value := #[rawInt l, rawInt c, .ref c']
abbrev psTwo (l c l' c' : Nat) (a b : Addr) : Array Value := #[rawInt l, rawInt c, .ref a, rawInt l', rawInt c', .ref b]
def CodeO (q : Str) (oc : Obj) : Prop := ∃ vs t, oc.data = .fields vs ∧ vs[1]? = some (.str q t)
/-- the table and the def's code, before the first call or behind it -/
def TabRO (P : Addr) (q : Str) (l c l' c' : Nat) (own : List (Addr × Obj)) : Prop :=
  own = [(P, tabObj #[])] ∨ ∃ a b oc, own = [(P, tabObj (psTwo l c l' c' a b)), (a, oc)] ∧ CodeO q oc
section
variable {M : Model} {A : Around} {E : Value → Shared → Prop} {s : Shared} {h₀ : Heap} {L a c P : Addr} {m mg mb : Str → Option Value} {cn : Str} {cs : Scope} {ccd : Value} {cl : List (Str × Addr)} {pre own : List (Addr × Obj)}
  {p : Program} {loose : List Str} {mean : ExcName → Option Value} {name qual : Str} {params : Arguments} {scope : Scope} {pos : Pos} {firstLine : Nat} {clos : List (Str × Addr)} {l' c' : Nat}
theorem beqNat (a b : Nat) : (((a : Nat) : Int) == ((b : Nat) : Int)) = (a == b) := by
  rw [Bool.eq_iff_iff]; simp only [beq_iff_eq]; omega
theorem updF_pre {d : Addr} {o : Obj} : ∀ {pre post : List (Addr × Obj)}, (∀ q ∈ pre, q.1 ≠ d) → (∀ q ∈ post, q.1 ≠ d) → UpdF d o (pre ++ (d, o) :: post) (fun o' => pre ++ (d, o') :: post)
  | [], _, _, k => .head k
  | _ :: _, _, h, k => .tail (h _ (.head _)) (updF_pre (fun q hq => h q (.tail _ hq)) k)
theorem defE {body : List Stmt} {Q : Value → Shared → Prop} (F : Fr h₀ L s.heap m) (N : News h₀ L s.heap (pre ++ own)) (T : Top p loose mean mg mb h₀) (C : CodeHd h₀ c P) (hcd : ccd = .ref c) (hO : TabRO P qual pos.line pos.col l' c' own) (hpre : ∀ q ∈ pre, q.1 ≠ P) (hap : ∀ q ∈ own, ∀ p ∈ pre, p.1 ≠ q.1)
    (hcl : closureFor scope (envX cn cs L a ccd cl) = pure clos)
    (h : ∀ f cc oc ctv doc h' tk ps, Fr h₀ L h' m → News h₀ L h' ((f, fnMade name qual params body scope clos doc ((mg "__name__").getD .none) cc ctv) :: (pre ++ [(P, tabObj ps), (cc, oc)])) → CodeO qual oc →
      ((own = [(P, tabObj #[])] ∧ ∀ q ∈ pre, q.1 < cc) ∧ ps = psOne pos.line pos.col cc ∨ ∃ b, ps = psTwo pos.line pos.col l' c' cc b ∧ own = [(P, tabObj ps), (cc, oc)]) → (∀ q ∈ pre, q.1 < f) → P < f → cc < f → cc ≠ P → (∀ q ∈ pre, q.1 ≠ cc) → Q (.ref f) { s with heap := h', toks := tk }) :
    wpAny M A (makeFunction name qual params (.stmts body) scope (envX cn cs L a ccd cl) [] [] [] pos firstLine) Q E s := by
  rcases hO with rfl | ⟨ca, cb, oc, rfl, hoc⟩
  · refine nest_K F N T C hcd (updF_pre (post := []) hpre (fun _ hq => nomatch hq)) True.intro rfl hcl fun f cc oc vs t ctv doc h' tk F' N' d1 d2 l1 l2 => ?_
    have e : (#[] : Array Value) ++ #[rawInt pos.line, rawInt pos.col, .ref cc] = psOne pos.line pos.col cc := rfl
    rw [e] at N'
    refine h f cc oc ctv doc h' tk _ F' (fun q hq => ?_) ⟨vs, t, d1, d2⟩ (.inl ⟨⟨rfl, fun q hq => l1 q (List.mem_append_left _ hq)⟩, rfl⟩) (fun q hq => Nat.lt_trans (l1 q (List.mem_append_left _ hq)) l2) (Nat.lt_trans (l1 _ (List.mem_append_right _ (.head _))) l2) l2 (Nat.ne_of_gt (l1 _ (List.mem_append_right _ (.head _)))) fun q hq => Nat.ne_of_lt (l1 q (List.mem_append_left _ hq))
    rcases List.mem_cons.mp hq with rfl | hq
    · exact N' _ (.head _)
    · rcases List.mem_append.mp hq with hq | hq
      · exact N' _ (.tail _ (.tail _ (List.mem_append_left _ hq)))
      · rcases List.mem_cons.mp hq with rfl | hq
        · exact N' _ (.tail _ (.tail _ (List.mem_append_right _ (.head _))))
        · rw [List.mem_singleton.mp hq]; exact N' _ (.tail _ (.head _))
  · refine nestHit_K F N T C hcd (List.mem_append_right _ (.head _)) True.intro (c' := ca) (by simp [codeAmong, rawInt]) hcl fun f ctv doc h' tk F' N' l1 => ?_
    exact h f ca oc ctv doc h' tk _ F' N' hoc (.inr ⟨cb, rfl, rfl⟩) (fun q hq => l1 q (List.mem_append_left _ hq)) (l1 _ (List.mem_append_right _ (.head _))) (l1 _ (List.mem_append_right _ (.tail _ (.head _)))) (fun q => by
      have e1 := (N _ (List.mem_append_right _ (.head _))).1
      have e2 := (N _ (List.mem_append_right _ (.tail _ (.head _)))).1
      obtain ⟨vs, t, e3, e4⟩ := hoc
      subst q
      rw [e1] at e2
      cases e2
      cases e3
      cases e4) fun q hq => hap _ (.tail _ (.head _)) q hq
theorem lamE {body : Expr} {l c₀ : Nat} {oc : Obj} {cc : Addr} {ps : Array Value} {R : Prop} {Q : Value → Shared → Prop} (F : Fr h₀ L s.heap m) (N : News h₀ L s.heap (pre ++ [(P, tabObj ps), (cc, oc)])) (T : Top p loose mean mg mb h₀) (C : CodeHd h₀ c P) (hcd : ccd = .ref c)
    (hO : R ∧ ps = psOne l c₀ cc ∨ ∃ b, ps = psTwo l c₀ pos.line pos.col cc b ∧ own = [(P, tabObj ps), (cc, oc)]) (hpre : ∀ q ∈ pre, q.1 ≠ P) (hcP : cc ≠ P)
    (hcl : closureFor scope (envX cn cs L a ccd cl) = pure clos) (hne : (l == pos.line && c₀ == pos.col) = false)
    (h : ∀ f ctv h' tk b, Fr h₀ L h' m → News h₀ L h' ((f, fnObj0 (kla_fn name qual params body scope clos ((mg "__name__").getD .none) (.ref (b : Addr)) ctv)) :: (pre ++ [(P, tabObj (psTwo l c₀ pos.line pos.col cc b)), (cc, oc)])) →
      (R ∨ own = [(P, tabObj (psTwo l c₀ pos.line pos.col cc b)), (cc, oc)]) → (∀ q ∈ pre, q.1 < f) → P < f → cc < f → Q (.ref f) { s with heap := h', toks := tk }) :
    wpAny M A (makeFunction name qual params (.expr body) scope (envX cn cs L a ccd cl) [] [] [] pos firstLine) Q E s := by
  rcases hO with ⟨hR, rfl⟩ | ⟨cb, rfl, hown⟩
  · have hn : codeAmong pos (psOne l c₀ cc).toList = none := by
      have hne' : (((l : Nat) : Int) == ((pos.line : Nat) : Int) && ((c₀ : Nat) : Int) == ((pos.col : Nat) : Int)) = false := by
        rw [beqNat, beqNat, hne]
      show (if (((l : Nat) : Int) == ((pos.line : Nat) : Int) && ((c₀ : Nat) : Int) == ((pos.col : Nat) : Int)) = true then _ else _) = _
      rw [hne']; rfl
    refine kla_nest F N T C hcd (updF_pre (post := [(cc, oc)]) hpre (fun q hq => by rw [List.mem_singleton.mp hq]; exact hcP)) True.intro hn hcl fun f b ob vs t ctv h' tk F' N' d1 d2 l1 l2 => ?_
    have e : psOne l c₀ cc ++ #[rawInt pos.line, rawInt pos.col, .ref b] = psTwo l c₀ pos.line pos.col cc b := rfl
    rw [e] at N'
    refine h f ctv h' tk b F' (fun q hq => ?_) (.inl hR) (fun q hq => Nat.lt_trans (l1 q (List.mem_append_left _ hq)) l2) (Nat.lt_trans (l1 _ (List.mem_append_right _ (.head _))) l2) (Nat.lt_trans (l1 _ (List.mem_append_right _ (.tail _ (.head _)))) l2)
    rcases List.mem_cons.mp hq with rfl | hq
    · exact N' _ (.head _)
    · exact N' _ (.tail _ (.tail _ hq))
  · refine kla_hit F N T C hcd (List.mem_append_right _ (.head _)) True.intro (c' := cb) ?_ hcl fun f ctv h' tk F' N' l1 => ?_
    · have hne' : (((l : Nat) : Int) == ((pos.line : Nat) : Int) && ((c₀ : Nat) : Int) == ((pos.col : Nat) : Int)) = false := by
        rw [beqNat, beqNat, hne]
      show (if (((l : Nat) : Int) == ((pos.line : Nat) : Int) && ((c₀ : Nat) : Int) == ((pos.col : Nat) : Int)) = true then _ else _) = _
      rw [hne']
      simp [codeAmong, rawInt]
    · exact h f ctv h' tk cb F' N' (.inr hown) (fun q hq => l1 q (List.mem_append_left _ hq)) (l1 _ (List.mem_append_right _ (.head _))) (l1 _ (List.mem_append_right _ (.tail _ (.head _))))
end

section
variable {M : Model} {A : Around} {E : Value → Shared → Prop} {s : Shared} {h₀ : Heap} {L a c P : Addr} {m mg mb : Str → Option Value} {cn : Str} {cs : Scope} {ccd : Value} {cl : List (Str × Addr)} {news : List (Addr × Obj)} {g : Obj → List (Addr × Obj)}
  {p : Program} {loose : List Str} {mean : ExcName → Option Value} {name qual : Str} {params : Arguments} {scope : Scope} {pos : Pos} {firstLine : Nat} {clos : List (Str × Addr)}
/-- a lambda alone in its def: its code made at the first time, found behind it -/
theorem lam1 {body : Expr} {l c₀ : Nat} {ps : Array Value} {Q : Value → Shared → Prop} (F : Fr h₀ L s.heap m) (N : News h₀ L s.heap news) (T : Top p loose mean mg mb h₀) (C : CodeHd h₀ c P) (hcd : ccd = .ref c) (ht : Tab1 l c₀ ps) (U : UpdF P (tabObj ps) news g)
    (hcl : closureFor scope (envX cn cs L a ccd cl) = pure clos) (hl : l = pos.line) (hc : c₀ = pos.col)
    (h : ∀ f fd h' tk ps', Tab1 l c₀ ps' → Fr h₀ L h' m → News h₀ L h' ((f, { cls := .type "function", data := .func fd }) :: g (tabObj ps')) → (∀ q ∈ news, q.1 < f) → Q (.ref f) { s with heap := h', toks := tk }) :
    wpAny M A (makeFunction name qual params (.expr body) scope (envX cn cs L a ccd cl) [] [] [] pos firstLine) Q E s := by
  subst hl hc
  rcases ht with rfl | ⟨cb, rfl⟩
  · refine kla_nest F N T C hcd U True.intro rfl hcl fun f b ob vs t ctv h' tk F' N' d1 d2 l1 l2 => ?_
    have e : #[] ++ #[rawInt pos.line, rawInt pos.col, .ref b] = psOne pos.line pos.col b := rfl
    rw [e] at N'
    refine h f (kla_fn name qual params body scope clos ((mg "__name__").getD .none) (.ref b) ctv) h' tk _ (.inr ⟨b, rfl⟩) F' (fun q hq => ?_) (fun q hq => Nat.lt_trans (l1 q hq) l2)
    rcases List.mem_cons.mp hq with rfl | hq
    · exact N' _ (.head _)
    · exact N' _ (.tail _ (.tail _ hq))
  · obtain ⟨own, rest, hn, hg, -, -⟩ := U.split
    refine kla_hit (ps := psOne pos.line pos.col cb) F N T C hcd (hn ▸ List.mem_append_right _ (.head _)) True.intro (c' := cb) (by simp [codeAmong, rawInt]) hcl fun f ctv h' tk F' N' l1 => ?_
    refine h f (kla_fn name qual params body scope clos ((mg "__name__").getD .none) (.ref cb) ctv) h' tk _ (.inr ⟨cb, rfl⟩) F' (fun q hq => N' q ?_) l1
    rw [hg, ← hn] at hq
    exact hq
end

theorem fillit_MTra : PySem.Challenge.rw_in0069_01 = PySem.Challenge.rw_in0069_01 ∧ hd.heap_39 = hd.heap_39 := by
  w_top off
  k_fill
  exact ⟨rfl, rfl⟩
noncomputable def trOf (p : Str) : Str := if p = Str.ofString "[!a]" then Str.ofString "[^a]" else p
/-- what stands behind one piece more: nothing stands for the star -/
noncomputable def trStep (acc : List (Option Str)) (p : Str) : List (Option Str) :=
  if p = Str.ofString "*" then (if acc.getLast? = some none then acc else acc ++ [none]) else acc ++ [some (trOf p)]
def PartIs (star : Addr) (v : Value) : Option Str → Prop
  | none => v = .ref star
  | some x => ∃ t, v = .str x t
/-- where the lambda of _translate stands -/
abbrev Tab71 (ps : Array Value) : Prop := Tab1 74 39 ps
/-- the word between the turns -/
def TrJ (pat : Str) (row : List Str) (star l x : Addr) (t tq tn : Tok) (k : Nat) (m : Str → Option Value) (news : List (Addr × Obj)) : Prop :=
  ∃ (dn rest : List Str) (rv : List Value) (n' : Nat) (ps : Array Value) (ti : Tok), k = rest.length ∧ row = dn ++ rest ∧ news = [(x, boundApp l), (l, W.listOf rv.toArray n'), (71, tabObj ps)] ∧ Tab71 ps ∧ All2 (PartIs star) rv (dn.foldl trStep []) ∧
    rv.length ≤ dn.length ∧ m (Str.ofString "i") = some (.int ((Str.join (Str.ofString "") dn).length : Nat) ti) ∧ m (Str.ofString "n") = some (.int (pat.length : Nat) tn) ∧ m (Str.ofString "pat") = some (.str pat t) ∧ m (Str.ofString "STAR") = some (.ref star) ∧
    m (Str.ofString "QUESTION_MARK") = some (.str (Str.ofString "?") tq) ∧ m (Str.ofString "res") = some (.ref l) ∧ m (Str.ofString "add") = some (.ref x)
theorem TrJ_end {Q : Flow → Shared → Prop} {h₀ h' : Heap} {L star l x : Addr} {s₁ : Shared} {tk n' i : Nat} {z : Int} {m : Str → Option Value} {led : List (Addr × Obj)} {pat pc : Str} {row dn rest : List Str} {rv : List Value} {ps : Array Value} {t tq tn ti : Tok}
    (F : Fr h₀ L h' m) (N : News h₀ L h' led) (hrow : row = dn ++ pc :: rest) (htb : Tab71 ps) (hie : (Str.join (Str.ofString "") dn).length = i) (hlen : (Str.join (Str.ofString "") (dn ++ [pc])).length = (Str.join (Str.ofString "") dn).length + pc.length)
    (mn : m (Str.ofString "n") = some (.int (pat.length : Nat) tn)) (mp : m (Str.ofString "pat") = some (.str pat t)) (ms : m (Str.ofString "STAR") = some (.ref star))
    (mq : m (Str.ofString "QUESTION_MARK") = some (.str (Str.ofString "?") tq)) (mr : m (Str.ofString "res") = some (.ref l)) (ma : m (Str.ofString "add") = some (.ref x))
    (mi : m (Str.ofString "i") = some (.int z ti)) (hz : z = ((i + pc.length : Nat) : Int)) (hs : ∀ p ∈ [(x, boundApp l), (l, W.listOf rv.toArray n'), (71, tabObj ps)], p ∈ led)
    (hrv : All2 (PartIs star) rv (trStep (dn.foldl trStep []) pc)) (hl : rv.length ≤ dn.length + 1) :
    WhileEnd h₀ L (pc :: rest).length (TrJ pat row star l x t tq tn) Q s₁ .next { s₁ with heap := h', toks := tk } := by
  subst hz
  subst hie
  refine WhileEnd.go rest.length _ F N (Nat.lt_succ_self _) hs ⟨dn ++ [pc], rest, rv, n', ps, ti, rfl, ?_, rfl, htb, ?_, ?_, ?_, mn, mp, ms, mq, mr, ma⟩
  · rw [hrow, List.append_assoc]; rfl
  · rw [List.foldl_append]; exact hrv
  · rw [List.length_append]; exact hl
  · rw [hlen]; exact mi
theorem tr_q (acc : List (Option Str)) : trStep acc (Str.ofString "?") = acc ++ [some (Str.ofString "?")] := by unfold trStep trOf; rw [if_neg (by decide), if_neg (by decide)]
theorem tr_a (acc : List (Option Str)) : trStep acc (Str.ofString "a") = acc ++ [some (Str.ofString "a")] := by unfold trStep trOf; rw [if_neg (by decide), if_neg (by decide)]
theorem tr_b (acc : List (Option Str)) : trStep acc (Str.ofString "b") = acc ++ [some (Str.ofString "b")] := by unfold trStep trOf; rw [if_neg (by decide), if_neg (by decide)]
theorem tr_ab (acc : List (Option Str)) : trStep acc (Str.ofString "[ab]") = acc ++ [some (Str.ofString "[ab]")] := by unfold trStep trOf; rw [if_neg (by decide), if_neg (by decide)]
theorem tr_na (acc : List (Option Str)) : trStep acc (Str.ofString "[!a]") = acc ++ [some (Str.ofString "[^a]")] := by unfold trStep trOf; rw [if_neg (by decide), if_pos rfl]
theorem tr_starstar (acc : List (Option Str)) : trStep (acc ++ [none]) (Str.ofString "*") = acc ++ [none] := by unfold trStep; rw [if_pos rfl, if_pos (by simp)]
theorem tr_starstr (acc : List (Option Str)) (x : Str) : trStep (acc ++ [some x]) (Str.ofString "*") = acc ++ [some x] ++ [none] := by unfold trStep; rw [if_pos rfl, if_neg (by simp)]
theorem isnot_str_ref {M : Model} {A : Around} {E : Value → Shared → Prop} {s : Shared} {x : Str} {t : Tok} {a : Addr} {Q : Value → Shared → Prop} (h : Q (.bool true) s) : wpAny M A (compareOp .IsNot (.str x t) (.ref a)) Q E s := by
  have e : (!(Value.str x t == Value.ref a)) = true := by simp
  exact wpAny_pure (a := Value.bool (!(Value.str x t == Value.ref a))) (by rw [e]; exact h)
theorem cat_ab : Str.empty ++ Str.ofString "[" ++ Str.ofString "ab" ++ Str.ofString "]" = Str.ofString "[ab]" := by decide +kernel
theorem cat_na : Str.empty ++ Str.ofString "[" ++ Str.ofString "^a" ++ Str.ofString "]" = Str.ofString "[^a]" := by decide +kernel
theorem piece_len {p : Str} (h : pieceOk p) : p.length ≤ 4 := by rcases h with rfl | rfl | rfl | rfl | rfl | rfl <;> decide
theorem fresh_of {h g : Heap} {P l : Addr} (hg : hideAll h [P] = g) (hl : g.get? l = none) (hP : l ≠ P) : h.get? l = none := by
  cases e : h.get? l with
  | none => rfl
  | some o =>
    have := hideAll_get [P] e fun q => hP (List.mem_singleton.mp q)
    rw [hg, hl] at this; cases this


local macro_rules | `(tactic| walk_at "m_hP") => `(tactic| (with_reducible rename AtS _ _ _ => hP9))
example : True := by
  k_with_none
  k_with "my m_enter" => ((refine' enter0 ?k1 ?k2 ?k3 ?k5 ?kA ?kF ?kK ?k6 ?k7 ?k8 ?k9 ?kB ?_ ?c2 ?c3 ?c4 ?c5; (case kA => exact rfl); (case kF => exact rfl); (case kK => assumption); (case k1 => k_asm); (case k2 => k_asm); (case k3 => k_asm); (case k5 => k_asm); (case k6 => k_is); (case k7 => k_is); (case k8 => ktr_room); (case k9 => exact BindsTo.of_eq rfl); (case c5 => decide); (case kB => exact locs rfl); (case c2 => exact rfl); (case c3 => exact rfl); (case c4 => exact rfl); k_whole))
  k_with "my call builtin:issubclass" => ((k_here; (with_reducible show wpAny _ _ (call _ [Value.type _, Value.ref _]) _ _ _); k_dflt (refine' call_iss ?k1 ?_; (case k1 => exact News.get (by k_asm) (by k_mem)))))
  k_with "my m_start" => ((refine wpAny_call ?_; k_dflt (walk_at "m_enter")))
  k_with "my m_use" => (((case kB => k_asm); (case kF => k_asm); (case kX => k_asm); (case kN => k_asm); (case kT => k_asm); (case kK => first | exact rfl | assumption); (case kD => ktr_room); (case kU => ktr_units)))
  k_with "my exec For Name Name cons nil" => ((k_here; refine Stop.out ?_))
  k_with "my exec For Tuple Name cons nil" => ((k_here; refine Stop.out ?_))
  k_with "my eval ListComp Call cons" => ((k_here; refine Stop.out ?_))
  k_with "my eval ListComp Name cons" => ((k_here; refine Stop.out ?_))
  k_with "my eval ListComp BinOp cons" => ((k_here; refine Stop.out ?_))
  k_with "my eval ListComp Tuple cons" => ((k_here; refine Stop.out ?_))
  k_with "my m_loc" => (first
  | exact rfl
  | with_reducible assumption
  | (refine Eq.trans (if_neg (by decide)) ?_; walk_at "m_loc")
  | ((with_reducible rename (∀ y : PySem.Str, y ≠ _ → _ = _) => hm9); refine Eq.trans (hm9 _ (by decide)) ?_; walk_at "m_loc"))
  k_with "my eval Name" => (((k_here; (with_reducible rename Fr _ _ _ _ => kF); k_dflt (refine' ld kF ?k2 ?_; (case k2 => walk_at "m_loc"); k_whole); (try dsimp only)); (try walk_at "m_hF")))
  k_with "my truthy ref" => ((k_here; (with_reducible show wpAny _ _ (truthy (Value.ref _)) _ _ _); k_dflt (refine' kgr_truthy ?N ?hm ?hc ?hd ?hf ?_; (case N => k_asm); (case hm => k_mem); (case hc => exact rfl); (case hd => exact rfl); (case hf => ((try simp only [strValues_length, List.length_append, List.length_cons, List.length_nil]); omega)); k_whole; (simp only [snoc_isEmpty, List.isEmpty_nil, Bool.not_true, Bool.not_false]))))
  k_with "my call builtin:list.append" => ((k_here; (with_reducible show wpAny _ _ (call (Value.builtin _) [Value.ref _, _]) _ _ _); k_dflt (refine' my_append ?F ?N ?U ?z ?_; (case F => k_asm); (case N => k_asm); (case U => k_upd); (case z => (rw [PySem.sizeLine_eq]; (try simp only [strValues_length, List.length_append, List.length_cons, List.length_nil]); omega)); k_whole; intro _ _ _; (try k_sweep))))
  k_with "my call builtin:list.pop" => ((k_here; (with_reducible show wpAny _ _ (call (Value.builtin _) [Value.ref _]) _ _ _); k_dflt (refine' my_pop ?F ?N ?U ?z ?_; (case F => k_asm); (case N => k_asm); (case U => k_upd); (case z => (rw [PySem.sizeLine_eq]; (try simp only [strValues_length, List.length_append, List.length_cons, List.length_nil]); omega)); k_whole; intro _ _ _; (try k_sweep))))
  k_with "my subscriptTail Name UnaryOp ref int" => ((k_here; (with_reducible show wpAny _ _ (subscriptTail _ _ (Value.ref _) (Value.int _ _)) _ _ _); k_dflt (refine' my_last ?N ?hm ?_; (case N => k_asm); (case hm => k_mem); k_whole)))
  k_with "my call builtin:str.join" => ((k_here; (with_reducible show wpAny _ _ (call (Value.builtin _) [Value.str _ _, Value.ref _]) _ _ _); k_dflt (refine' join_list (News.isList ?N ?hm) ?S ?ok ?_; (case N => k_asm); (case hm => k_mem); (case S => with_reducible assumption); (case ok => ((simp only [show (Str.ofString "/").length = 1 from rfl, show (Str.ofString "").length = 0 from rfl]); omega)); k_whole; intro _ _)))
  k_with "my binaryOp Add str str" => ((k_here; (with_reducible show wpAny _ _ (binaryOp Operator.Add (Value.str _ _) (Value.str _ _)) _ _ _); k_dflt (refine' SBL.add (hsz := ?z) ?_; (case z => (rw [PySem.sizeLine_eq]; (try simp only [show (Str.ofString "/").length = 1 from rfl]); omega)); k_whole; intro _ _)))
  k_with "my truthy str" => ((k_here; (with_reducible show wpAny _ _ (PySem.truthy (Value.str _ _)) _ _ _); k_dflt (refine' KXt.truthy_pos (K := 16777216) ?za ?zb (Nat.le_refl _) ?_; (case za => omega); (case zb => omega); k_whole; intro _)))
  k_with "my eval Name" => (((k_here; (with_reducible rename NsObj _ _ => nX9); k_dflt (refine' ldVarK (NsObj.ns nX9 (News.get ?N ?hm)) ?hv ?_; (case N => k_asm); (case hm => k_mem); (case hv => with_reducible assumption); k_whole)); (try walk_at "m_hX")))
  k_with "my call builtin:str.join" => ((k_here; (with_reducible show wpAny _ _ (call (Value.builtin _) [Value.str _ _, Value.ref _]) _ _ _); k_dflt (refine' join_list ?hl ?S ?ok ?_; (case hl => exact Heap.IsList.at (by with_reducible assumption) (Fr.keep (by k_asm) _)); (case S => with_reducible assumption); (case ok => ((simp only [show (Str.ofString "/").length = 1 from rfl, show (Str.ofString "").length = 0 from rfl]); omega)); k_whole; intro _ _)))
  k_with "my eval Name" => (((k_here; (with_reducible rename Fr _ _ _ _ => kF); (with_reducible rename NsObj _ _ => nX9); k_dflt (refine' nameG_B kF ?k1 ?k2 ?k3 ?k4 ?k5 ?_ ?k6 ?k7 ?k8 ?k9 ?k10; (case k1 => k_asm); (case k2 => k_asm); (case k3 => k_is); (case k4 => boot_by_name); (case k5 => decide); (case k6 => exact rfl); (case k7 => exact rfl); (case k8 => exact rfl); (case k9 => exact rfl); (case k10 => decide); k_whole)); (try walk_at "m_hF"); (try walk_at "m_hX")))
  k_with "my binaryOp Add ref ref" => ((k_here; (with_reducible show wpAny _ _ (binaryOp Operator.Add (Value.ref _) (Value.ref _)) _ _ _); k_dflt (refine' add_lists ?F ?N (News.isList ?N1 ?m1) (News.isList ?N2 ?m2) ?_ ?z; (case F => k_asm); (case N => k_asm); (case N1 => k_asm); (case m1 => k_mem); (case N2 => k_asm); (case m2 => k_mem); (case z => (rw [PySem.sizeLine_eq]; (try simp only [List.length_append, List.length_cons, List.length_nil]); omega)); k_whole; intro _ _ _; (try k_sweep))))
  k_with "my call builtin:len" => ((k_here; (with_reducible show wpAny _ _ (call _ [Value.ref _]) _ _ _); k_dflt (refine' len_list ?hl ?hf ?_; (case hl => exact Heap.IsList.at (by with_reducible assumption) (Fr.keep (by k_asm) _)); (case hf => ((simp only [List.size_toArray]); omega)); k_whole; (try simp only [List.size_toArray]))))
  k_with "my call type:bytes" => ((k_here; (with_reducible show wpAny _ _ (call (Value.type _) [Value.ref _]) _ _ _); k_dflt (refine' bytes_K ?F ?N (News.isList ?N1 ?m1) ?i ?r ?z ?h ?_; (case F => k_asm); (case N => k_asm); (case N1 => k_asm); (case m1 => k_mem); (case i => with_reducible assumption); (case r => with_reducible assumption); (case z => (rw [PySem.sizeLine_eq]; omega)); (case h => exact rfl); k_whole; intro _ _ _ _ _ _; (try k_sweep))))
  k_with "my getAttr ref" => ((k_here; (with_reducible show wpAny _ _ (getAttr (Value.ref _) (Str.ofString "append") true) _ _ _); k_dflt (refine' bnd_K (us := []) ?F ?N ?hm ?_; (case F => k_asm); (case N => k_asm); (case hm => k_mem); k_whole; intro _; walk_at "m_i5")))
  k_with "my callWith ref" => ((k_here; (with_reducible show wpAny _ _ (callWith _ (Value.ref _) _ (backTo _ (starEach (_ :: _) _)) []) _ _ _); k_dflt (refine' callWith_app ?N ?M ?_; (case N => k_asm); (case M => k_mem); k_whole)))
  k_with "my And" => (((with_reducible show StandsIn _ _ _ ∧ _); k_dflt (refine ⟨StandsIn.of (by k_asm) (by k_mem), ?_⟩); (try dsimp only [List.nil_append, List.cons_append])))
  k_with "my call ref" => ((k_here; (with_reducible show wpAny _ _ (call (Value.ref _) [_]) _ _ _); k_dflt (refine' bnd_call ?F ?N ?hu ?hl ?U ?z ?_; (case F => k_asm); (case N => k_asm); (case hu => k_mem); (case hl => k_mem); (case U => k_upd); (case z => (rw [PySem.sizeLine_eq]; omega)); k_whole; intro _ _ _; (try k_sweep))))
  k_with "my m_ch" => (first | exact ch_0 | exact ch_1 | exact ch_2 | exact ch_3 | exact ch_4 | exact ch_5 | exact ch_6 | exact ch_7 | exact ch_8 | exact ch_9 | exact ch_10 | exact ch_11)
  k_with "my subscriptTail Name Name str int" => (((k_here; (with_reducible rename AtS _ _ _ => hP9); k_dflt (first | (refine' item_as (d := 0) hP9 ?z ?c ?l ?_; (case z => omega)) | (refine' item_as (d := 1) hP9 ?z ?c ?l ?_; (case z => omega)) | (refine' item_as (d := 2) hP9 ?z ?c ?l ?_; (case z => omega)) | (refine' item_as (d := 3) hP9 ?z ?c ?l ?_; (case z => omega))); (case c => walk_at "m_ch"); (case l => omega)); (try walk_at "m_hP")))
  k_with "my call ref" => ((k_here; (with_reducible show wpAny _ _ (call (Value.ref 69) [Value.str _ _]) _ _ _); k_dflt (refine' use0 (escape_spec _ _ _ (by decide)) ?kB ?kF ?kX ?kN ?kT ?kK ?kD ?kU trivial ?_; walk_at "m_use"; k_whole; intro _ _ _ _ hp' _ _; obtain ⟨_, hp'⟩ := hp'; subst hp'; (try k_sweep))))
  k_with "my compareOp IsNot str ref" => ((k_here; (with_reducible show wpAny _ _ (compareOp CmpOp.IsNot (Value.str _ _) (Value.ref _)) _ _ _); refine isnot_str_ref ?_))
  k_with "my exec While BoolOp cons nil" => ((k_here; k_dflt (refine whl_start 100 ?_)))
  k_with "my m_cut" => (first | exact cut_ab | exact cut_na)
  k_with "my subscriptTail Name Slice str ref" => (((k_here; (with_reducible show wpAny _ _ (subscriptTail _ (PySem.Expr.Slice (some _) (some _) none _) (Value.str _ _) (Value.ref _)) _ _ _); (with_reducible rename AtS _ _ _ => hP9); k_dflt (refine' sl_as (s := ⟨_, _, _, _, _⟩) (d := 1) (e := 3) ?F ?N hP9 ?h1 ?h2 (by decide) (by decide) ?hq ?hl ?_; (case h1 => omega); (case h2 => omega); (case F => k_asm); (case N => k_asm); (case hq => walk_at "m_cut"); (case hl => omega); k_whole; intro _ _ _ _ _; (try k_sweep))); (try walk_at "m_hP")))
  k_with "my eval Lambda" => ((k_here; k_dflt (refine' kla_eval ?d0 ?_; (case d0 => exact rfl)); refine Stop.out ?_))
  k_with "my compareOp NotIn str str" => ((k_here; (with_reducible show wpAny _ _ (compareOp CmpOp.NotIn (Value.str _ _) (Value.str _ _)) _ _ _); k_dflt (refine' notin_lit ?c ?_; (case c => decide +kernel))))
  k_with "my call builtin:str.replace" => ((k_here; (with_reducible show wpAny _ _ (call _ [Value.str _ _, Value.str _ _, Value.str _ _]) _ _ _); k_dflt (refine' replace_none ?c ?_; (case c => decide +kernel))))
  k_with "my getMethod ref" => ((k_here; (with_reducible show wpAny _ _ (getMethod (Value.ref 57) _ _) _ _ _); k_dflt (refine' get_sub ?F ?X ?_; (case F => k_asm); (case X => k_asm); k_whole)))
  k_with "my m_s1" => (first | exact sub_ab.1 | exact sub_na.1)
  k_with "my m_s2" => (first | exact sub_ab.2.1 | exact sub_na.2.1)
  k_with "my m_s3" => (first | exact sub_ab.2.2.1 | exact sub_na.2.2.1)
  k_with "my m_s4" => (first | exact sub_ab.2.2.2 | exact sub_na.2.2.2)
  k_with "my call builtin:re.Pattern.sub" => ((k_here; (with_reducible show wpAny _ _ (call (Value.builtin _) [Value.ref 57, Value.ref _, Value.str _ _]) _ _ _); k_dflt (refine' call_subK ?F ?N ?X ?hf ?a ?b ?c ?d ?_; (case F => k_asm); (case N => k_asm); (case X => k_asm); (case hf => k_mem); (case a => walk_at "m_s1"); (case b => walk_at "m_s2"); (case c => walk_at "m_s3"); (case d => walk_at "m_s4"); k_whole; intro _ _ _ _ _; (try k_sweep))))
  k_with "my m_enterT" => ((refine' enterT ?k1 ?k2 ?k3 ?k5 ?kN ?kA ?kF ?kK ?k6 ?k7 ?k8 ?k9 ?kB ?_ ?c2 ?c3 ?c4 ?c5; (case kA => exact rfl); (case kF => exact rfl); (case kK => assumption); (case k1 => k_asm); (case k2 => k_asm); (case k3 => k_asm); (case kN => k_asm); (case k5 => k_asm); (case k6 => k_is); (case k7 => k_is); (case k8 => ktr_room); (case k9 => exact BindsTo.of_eq rfl); (case c5 => decide); (case kB => exact locs rfl); (case c2 => exact rfl); (case c3 => exact rfl); (case c4 => exact rfl); k_whole))
  k_with "my m_startT" => ((refine wpAny_call ?_; k_dflt (walk_at "m_enterT")))
  k_with "my exec While Compare cons nil" => ((k_here; refine Stop.out ?_))
  k_with "my eval Name" => (k_here; dsimp only)
  k_with "my eval Constant int" => (k_here; dsimp only)
  k_with "my eval Constant str" => (k_here; dsimp only)
  k_with "my m_fold" => (((first | (with_reducible show wpAny _ _ (PySem.execs _ _) _ _ _) | (with_reducible show wpAny _ _ (PySem.exec _ _) _ _ _)); (first | ((fail_if_success (have := qk0)); k_fold; (rename PySem.Flow → PySem.Shared → Prop => qk0); (rename PySem.Value → PySem.Shared → Prop => ek0)) | ((fail_if_success (have := qk1)); k_fold; (rename PySem.Flow → PySem.Shared → Prop => qk1); (rename PySem.Value → PySem.Shared → Prop => ek1)) | ((fail_if_success (have := qk2)); k_fold; (rename PySem.Flow → PySem.Shared → Prop => qk2); (rename PySem.Value → PySem.Shared → Prop => ek2)) | ((fail_if_success (have := qk3)); k_fold; (rename PySem.Flow → PySem.Shared → Prop => qk3); (rename PySem.Value → PySem.Shared → Prop => ek3)) | ((fail_if_success (have := qk4)); k_fold; (rename PySem.Flow → PySem.Shared → Prop => qk4); (rename PySem.Value → PySem.Shared → Prop => ek4)) | ((fail_if_success (have := qk5)); k_fold; (rename PySem.Flow → PySem.Shared → Prop => qk5); (rename PySem.Value → PySem.Shared → Prop => ek5)) | ((fail_if_success (have := qk6)); k_fold; (rename PySem.Flow → PySem.Shared → Prop => qk6); (rename PySem.Value → PySem.Shared → Prop => ek6)) | ((fail_if_success (have := qk7)); k_fold; (rename PySem.Flow → PySem.Shared → Prop => qk7); (rename PySem.Value → PySem.Shared → Prop => ek7)) | ((fail_if_success (have := qk8)); k_fold; (rename PySem.Flow → PySem.Shared → Prop => qk8); (rename PySem.Value → PySem.Shared → Prop => ek8)) | ((fail_if_success (have := qk9)); k_fold; (rename PySem.Flow → PySem.Shared → Prop => qk9); (rename PySem.Value → PySem.Shared → Prop => ek9)) | ((fail_if_success (have := qk10)); k_fold; (rename PySem.Flow → PySem.Shared → Prop => qk10); (rename PySem.Value → PySem.Shared → Prop => ek10)) | ((fail_if_success (have := qk11)); k_fold; (rename PySem.Flow → PySem.Shared → Prop => qk11); (rename PySem.Value → PySem.Shared → Prop => ek11)) | ((fail_if_success (have := qk12)); k_fold; (rename PySem.Flow → PySem.Shared → Prop => qk12); (rename PySem.Value → PySem.Shared → Prop => ek12)) | ((fail_if_success (have := qk13)); k_fold; (rename PySem.Flow → PySem.Shared → Prop => qk13); (rename PySem.Value → PySem.Shared → Prop => ek13)) | ((fail_if_success (have := qk14)); k_fold; (rename PySem.Flow → PySem.Shared → Prop => qk14); (rename PySem.Value → PySem.Shared → Prop => ek14)) | ((fail_if_success (have := qk15)); k_fold; (rename PySem.Flow → PySem.Shared → Prop => qk15); (rename PySem.Value → PySem.Shared → Prop => ek15)))))
  k_with "my m_tidy" => (((try clear qk15); (try clear ek15)); ((try clear qk14); (try clear ek14)); ((try clear qk13); (try clear ek13)); ((try clear qk12); (try clear ek12)); ((try clear qk11); (try clear ek11)); ((try clear qk10); (try clear ek10)); ((try clear qk9); (try clear ek9)); ((try clear qk8); (try clear ek8)); ((try clear qk7); (try clear ek7)); ((try clear qk6); (try clear ek6)); ((try clear qk5); (try clear ek5)); ((try clear qk4); (try clear ek4)); ((try clear qk3); (try clear ek3)); ((try clear qk2); (try clear ek2)); ((try clear qk1); (try clear ek1)); ((try clear qk0); (try clear ek0)))
  k_with "my execs cons" => (first | (k_here; k_gentoks) | (k_here; walk_at "m_fold") | (k_here; walk_at "m_tidy"; (with_reducible refine wpAny_execs_cons ?_); (try dsimp only); (try walk_at "m_fold")))
  trivial

set_option maxHeartbeats 8000000 in
theorem translate_spec (w : World) (H0 : Heap) (star : Addr) (row : List Str) (pat : Str) (t tq : Tok) (hpat : pat = Str.join (Str.ofString "") row) (hrl : row.length ≤ 3) (hpo : ∀ p ∈ row, pieceOk p) :
    Spec71 w 76 24 160 (fun h => h = H0) [.str pat t, .ref star, .str (Str.ofString "?") tq] (fun h v => ∃ l vs n, v = .ref l ∧ H0.get? l = none ∧ h.get? l = some (W.listOf vs.toArray n) ∧ All2 (PartIs star) vs (row.foldl trStep [])) 74 39 := by
  intro p loose mean mg mb dp un gd cn cs a ccd cl outer A₀ base h₀ L m s Q E ps B F X T hk hd hu htb N hpre hret
  walk_at "m_startT"
  intro g L' h₁ hg F' N' lt' B' X' T'
  (try dsimp only)
  replace N' : News g L' h₁ [(71, tabObj ps)] := N'
  have C : CodeHd g 75 71 := codeHd_of_K X' (by kernel_rfl)
  have hpl : pat.length ≤ 12 := by
    have h9 := join0_le (n := 4) row fun p hp => piece_len (hpo p hp)
    rw [← hpat] at h9
    have h8 := Nat.mul_le_mul_right 4 hrl
    exact Nat.le_trans h9 h8
  clear B F X T N
  k_lt lt'
  (all_goals try walk_at "m_fold")
  k_steps
  with_reducible rename Fr _ _ _ _ => F1
  with_reducible rename News _ _ _ _ => N1
  rename_i l h9 hl1 h8 tk1 x h7 tk2 hl2 h6 _ D h5 hl3 h4 h3 h2
  refine Stop.go (while_my row.length (TrJ pat row star l x t tq _) F1 (fun p hp => N1 p (.tail _ hp)) ⟨[], row, [], 0, ps, _, rfl, rfl, rfl, htb, .nil, Nat.le_refl _, rfl, rfl, rfl, rfl, rfl, rfl, rfl⟩ ?_)
  clear N1 F1 hl3
  rintro k m3 news3 h3' tk3 hq0 F3 N3
  ((try dsimp only); (try walk_at "m_fold"))
  refine hide ?_
  intro Gq hGq
  obtain ⟨dn, rest, rv, n', ps', ti, rfl, hrow, rfl, htb', hrv, hrvl, mi, mn, mp, ms, mq, mr, ma⟩ := hq0
  refine hGq ?_
  clear hGq Gq
  have hi : (Str.join (Str.ofString "") dn).length ≤ pat.length := join0_pre hpat hrow
  generalize hie : (Str.join (Str.ofString "") dn).length = i at mi hi
  replace F3 : Fr g L' h3' _ := F3
  replace N3 : News g L' h3' _ := N3
  have hdn : dn.length + rest.length ≤ 3 := by rw [hrow, List.length_append] at hrl; exact hrl
  rcases rest with _ | ⟨pc, rest⟩
  · have hin : i = pat.length := by rw [← hie, hpat, hrow, List.append_nil]
    clear hie hpat
    subst hin
    clear hi
    (all_goals try walk_at "m_fold")
    k_steps
    all_goals first | exact absurd rfl (by assumption) | skip
    rw [List.append_nil] at hrow
    with_reducible rename Fr _ _ _ _ => F4
    exact hret _ _ _ ps' htb' (N3 _ (.tail _ (.tail _ (.head _)))).1 (keptBut_of hg F4) ⟨l, rv, n', rfl, hpre ▸ fresh_of hg (N3 (l, W.listOf rv.toArray n') (.tail _ (.head _))).2.2 (fun q => by
      have e1 := (N3 (l, W.listOf rv.toArray n') (.tail _ (.head _))).1
      have e2 := (N3 (71, tabObj ps') (.tail _ (.tail _ (.head _)))).1
      dsimp only at e1 e2
      rw [q, e2] at e1
      cases e1), (N3 (l, W.listOf rv.toArray n') (.tail _ (.head _))).1, hrow ▸ hrv⟩
  · have hat : AtS pat i pc := hie ▸ join0_at hpat hrow
    have hin : i + pc.length ≤ pat.length := hat.le
    have hlen : (Str.join (Str.ofString "") (dn ++ [pc])).length = (Str.join (Str.ofString "") dn).length + pc.length := join0_len pc dn
    replace hdn : dn.length ≤ 2 := by rw [List.length_cons] at hdn; omega
    
    have hvn : rv.length + 1 ≤ 3 := by omega
    rcases hpo pc (by rw [hrow]; exact List.mem_append_right _ (.head _)) with rfl | rfl | rfl | rfl | rfl | rfl
    · replace hin : i + 1 ≤ pat.length := hin
      rcases List.eq_nil_or_concat rv with rfl | ⟨us, y, rfl⟩
      · cases hacc : List.foldl trStep [] dn with
        | cons o os => rw [hacc] at hrv; cases hrv
        | nil =>
          (all_goals try walk_at "m_fold")
          k_steps
          all_goals first | exact absurd (by assumption) (by decide) | skip
          with_reducible rename Fr _ _ _ _ => FE
          with_reducible rename News _ _ _ _ => NE
          exact TrJ_end FE NE hrow htb' hie hlen mn mp ms mq mr ma rfl (by rfl) (fun p hp => hp) (by rw [hacc]; exact .cons rfl .nil) (Nat.le_add_left _ _)
      · rw [List.concat_eq_append] at hrv hrvl N3 hvn
        have hul : us.length + 1 ≤ 2 := by rw [List.length_append] at hrvl; have : us.length + 1 ≤ dn.length := hrvl; omega
        refine hide ?_
        intro Gq hGq
        obtain ⟨acc, o, hacc, hus, hy⟩ : ∃ acc o, List.foldl trStep [] dn = acc ++ [o] ∧ All2 (PartIs star) us acc ∧ PartIs star y o := hrv.snocL
        refine hGq ?_
        clear hGq Gq
        rcases o with _ | xx
        · obtain rfl : y = .ref star := hy
          (all_goals try walk_at "m_fold")
          k_steps
          with_reducible rename Fr _ _ _ _ => FE
          with_reducible rename News _ _ _ _ => NE
          have e : trStep (List.foldl trStep [] dn) (Str.ofString "*") = List.foldl trStep [] dn := by rw [hacc]; exact tr_starstar acc
          exact TrJ_end FE NE hrow htb' hie hlen mn mp ms mq mr ma rfl (by rfl) (fun p hp => hp) (by rw [e]; exact hrv) (Nat.le_succ_of_le hrvl)
        · obtain ⟨tx, rfl⟩ : ∃ t, y = .str xx t := hy
          (all_goals try walk_at "m_fold")
          k_steps
          with_reducible rename Fr _ _ _ _ => FE
          with_reducible rename News _ _ _ _ => NE
          have e : trStep (List.foldl trStep [] dn) (Str.ofString "*") = List.foldl trStep [] dn ++ [none] := by rw [hacc]; exact tr_starstr acc xx
          exact TrJ_end FE NE hrow htb' hie hlen mn mp ms mq mr ma rfl (by rfl) (fun p hp => hp) (by rw [e]; exact hrv.snoc rfl) (by rw [List.length_append]; exact Nat.succ_le_succ hrvl)
    · replace hin : i + 1 ≤ pat.length := hin
      (all_goals try walk_at "m_fold")
      k_steps
      with_reducible rename Fr _ _ _ _ => FE
      with_reducible rename News _ _ _ _ => NE
      have e : trStep (List.foldl trStep [] dn) (Str.ofString "?") = List.foldl trStep [] dn ++ [some (Str.ofString "?")] := tr_q _
      exact TrJ_end FE NE hrow htb' hie hlen mn mp ms mq mr ma rfl (by rfl) (fun p hp => hp) (by rw [e]; exact hrv.snoc ⟨_, rfl⟩) (by rw [List.length_append]; exact Nat.succ_le_succ hrvl)
    · replace hin : i + 1 ≤ pat.length := hin
      (all_goals try walk_at "m_fold")
      k_steps
      with_reducible rename Fr _ _ _ _ => FE
      with_reducible rename News _ _ _ _ => NE
      have e : trStep (List.foldl trStep [] dn) (Str.ofString "a") = List.foldl trStep [] dn ++ [some (Str.ofString "a")] := tr_a _
      exact TrJ_end FE NE hrow htb' hie hlen mn mp ms mq mr ma rfl (by rfl) (fun p hp => hp) (by rw [e]; exact hrv.snoc ⟨_, rfl⟩) (by rw [List.length_append]; exact Nat.succ_le_succ hrvl)
    · replace hin : i + 1 ≤ pat.length := hin
      (all_goals try walk_at "m_fold")
      k_steps
      with_reducible rename Fr _ _ _ _ => FE
      with_reducible rename News _ _ _ _ => NE
      have e : trStep (List.foldl trStep [] dn) (Str.ofString "b") = List.foldl trStep [] dn ++ [some (Str.ofString "b")] := tr_b _
      exact TrJ_end FE NE hrow htb' hie hlen mn mp ms mq mr ma rfl (by rfl) (fun p hp => hp) (by rw [e]; exact hrv.snoc ⟨_, rfl⟩) (by rw [List.length_append]; exact Nat.succ_le_succ hrvl)
    · replace hin : i + 4 ≤ pat.length := hin
      (all_goals try walk_at "m_fold")
      k_steps
      with_reducible rename Fr _ _ _ _ => F2
      with_reducible rename News _ _ _ _ => N2
      refine Stop.go ?_
      refine' lam1 F2 N2 T' C rfl htb' ?U rfl rfl rfl ?_
      case U => k_updF
      intro lf lfd h4 tk4 ps4 htb4 F4 N4 l4
      (try dsimp only at N4)
      clear F2 N2 htb'
      k_lt l4
      (all_goals try walk_at "m_fold")
      k_steps
      with_reducible rename Fr _ _ _ _ => FE
      with_reducible rename News _ _ _ _ => NE
      rw [cat_ab] at NE
      have e : trStep (List.foldl trStep [] dn) (Str.ofString "[ab]") = List.foldl trStep [] dn ++ [some (Str.ofString "[ab]")] := tr_ab _
      refine' TrJ_end FE NE hrow htb4 hie hlen mn mp ms mq mr ma rfl ?hz ?hs ?hv ?hw
      case hz => (show _ = ((i + 4 : Nat) : Int); omega)
      case hs => k_allIn
      case hv => (rw [e]; exact hrv.snoc ⟨_, rfl⟩)
      case hw => (rw [List.length_append]; exact Nat.succ_le_succ hrvl)
    · replace hin : i + 4 ≤ pat.length := hin
      (all_goals try walk_at "m_fold")
      k_steps
      with_reducible rename Fr _ _ _ _ => F2
      with_reducible rename News _ _ _ _ => N2
      refine Stop.go ?_
      refine' lam1 F2 N2 T' C rfl htb' ?U rfl rfl rfl ?_
      case U => k_updF
      intro lf lfd h4 tk4 ps4 htb4 F4 N4 l4
      (try dsimp only at N4)
      clear F2 N2 htb'
      k_lt l4
      (all_goals try walk_at "m_fold")
      k_steps
      with_reducible rename Fr _ _ _ _ => FE
      with_reducible rename News _ _ _ _ => NE
      rw [cat_na] at NE
      have e : trStep (List.foldl trStep [] dn) (Str.ofString "[!a]") = List.foldl trStep [] dn ++ [some (Str.ofString "[^a]")] := tr_na _
      refine' TrJ_end FE NE hrow htb4 hie hlen mn mp ms mq mr ma rfl ?hz ?hs ?hv ?hw
      case hz => (show _ = ((i + 4 : Nat) : Int); omega)
      case hs => k_allIn
      case hv => (rw [e]; exact hrv.snoc ⟨_, rfl⟩)
      case hw => (rw [List.length_append]; exact Nat.succ_le_succ hrvl)

abbrev objO : Obj := { cls := .type "object", data := .plain }
theorem mro_object : mroOf (.type "object") = pure [.type "object"] := by rw [mroOf_type]; kernel_rfl
theorem lookup_object_new : typeLookup (.type "object") "__new__" = pure (some (.builtin "object.__new__")) := by rw [typeLookup_type, builtinLookup_eq_fast]; kernel_rfl
theorem sub_object : isSubtype (.type "object") (.type "object") = pure true := by rw [isSubtype_type]; kernel_rfl
theorem slot_object_init : Slot "object" "__init__" "object.__init__" :=
  .of (owner := "object") (n := "__init__") (by rw [typeLookup_type, builtinLookup_eq_fast]; kernel_rfl) (by decide +kernel) (by decide +kernel) (by decide +kernel)
    (by first | exact .inl (by decide +kernel) | exact .inr (by decide +kernel)) (by rw [isSubtype_type]; kernel_rfl)
theorem called_object : TypeCalled "object" "object.__new__" "object.__init__" :=
  ⟨by decide +kernel, by decide +kernel, ⟨_, _, mro_object⟩, madeBy_type mro_object lookup_object_new (by decide +kernel), by decide +kernel, sub_object, slot_object_init⟩
theorem typeCall_object : checkTypeCall "object" ⟨[], []⟩ = pure () := by kernel_rfl
theorem newCall_object : checkBuiltinCall "object.__new__" ⟨[.type "object"], []⟩ = pure () := by kernel_rfl
theorem entry_object_new : entryFor table "object.__new__" = some Builtin.«object.__new__» := entryFor_of_tree (by kernel_rfl)
theorem madeHere_object : Bind.madeHere "object.__new__" (.type "object") = pure () := by kernel_rfl
theorem isType_object : isType (.type "object") = pure true := by first | rfl | kernel_rfl | (unfold isType; rw [isSubtype_type]; kernel_rfl)
theorem hasDict_object : typeHasDict (.type "object") = false := by first | rfl | decide +kernel | kernel_rfl
theorem dies_object : diesByItsTypesDel "object" = false := by first | rfl | decide +kernel
theorem args_object_init_1 (a : Value) : argsOk "object.__init__" ⟨[a], []⟩ := by unfold argsOk; kernel_rfl
theorem meets_object_new : Meets (Builtin.«object.__new__» ⟨[.type "object"], []⟩) (fun _ R s => R (.ok (.ret (.ref s.heap.objs.size))) { s with heap := s.heap.push objO }) := by
  refine Meets.of_wp fun prog w A R s hs => ?_
  obtain ⟨hp, g, d, tk, os⟩ := s
  have f1 := isType_object
  have f2 := madeHere_object
  have f3 := hasDict_object
  unfold Builtin.«object.__new__»
  repeat (any_goals (first | assumption | wp_step))
  exact ⟨_, rfl, hs⟩
theorem meets_object_init (v : Value) : Meets (Builtin.«object.__init__» ⟨[v], []⟩) (fun _ R s => R (.ok (.ret .none)) s) :=
  Meets.of_wp fun _ _ _ _ _ hs => wpAny_pure ⟨_, rfl, hs⟩
theorem call_object {prog : Program} {w : World} {A : Around} {E : Value → Shared → Prop} {s : Shared} {h₀ : Heap} {L : Addr} {m : Str → Option Value} {news : List (Addr × Obj)} {Q : Value → Shared → Prop} (F : Fr h₀ L s.heap m) (N : News h₀ L s.heap news)
    (h : ∀ x h', Fr h₀ L h' m → News h₀ L h' ((x, objO) :: news) → (∀ p ∈ news, p.1 < x) → Q (.ref x) { s with heap := h' }) : wpAny (model prog w) A (call (.type "object") []) Q E s :=
  callType_meets (Q₁ := fun obj s₁ => obj = .ref s.heap.objs.size ∧ s₁ = { s with heap := s.heap.push objO }) called_object typeCall_object newCall_object entry_object_new PySem.F.entry_object_init meets_object_new ⟨rfl, rfl⟩
    fun obj s₁ e => by
      obtain ⟨rfl, rfl⟩ := e
      exact ⟨⟨_, Heap.get?_push_size _ rfl, rfl⟩, args_object_init_1 _, _, meets_object_init _, rfl, h _ _ (F.push _) (News.push F N _) fun p hp => Heap.lt_size (N p hp).1⟩

theorem fillit_MTakes : PySem.Challenge.rw_in0069_01 = PySem.Challenge.rw_in0069_01 ∧ hd.heap_39 = hd.heap_39 := by
  w_top off
  k_fill
  exact ⟨rfl, rfl⟩
/-- does the sign before which k stands fit the part -/
noncomputable def hits (name : Str) (k : Int) (x : Str) : Bool :=
  if x = Str.ofString "?" then true
  else if x = Str.ofString "[ab]" then !(Builtin.Str.occurrences x (Txt.item name k) 0 x.length 1).isEmpty
  else if x = Str.ofString "[^a]" then (Builtin.Str.occurrences x (Txt.item name k) 0 x.length 1).isEmpty
  else x == Txt.item name k
noncomputable def takeStep (name : Str) (ns : List Int) : Option Str → List Int
  | none => ((List.range (name.length + 1)).map Int.ofNat).filter fun k => ns.any fun a => decide (a ≤ k)
  | some x => (ns.filter fun k : Int => decide (k < (name.length : Int)) && hits name k x).map (· + 1)
noncomputable def takesB (row : List Str) (name : Str) : Bool := ((row.foldl trStep []).foldl (takeStep name) [0]).any (· == (name.length : Int))
def tokOk : Option Str → Prop
  | none => True
  | some x => x = Str.ofString "?" ∨ x = Str.ofString "a" ∨ x = Str.ofString "b" ∨ x = Str.ofString "[ab]" ∨ x = Str.ofString "[^a]"
theorem tokOk_step {acc : List (Option Str)} (h : ∀ o ∈ acc, tokOk o) {p : Str} (hp : pieceOk p) : ∀ o ∈ trStep acc p, tokOk o := by
  have hs : ∀ (x : Str), tokOk (some x) → ∀ o ∈ acc ++ [some x], tokOk o := fun x hx o ho => by
    rcases List.mem_append.mp ho with ho | ho
    · exact h o ho
    · rw [List.mem_singleton.mp ho]; exact hx
  rcases hp with rfl | rfl | rfl | rfl | rfl | rfl
  · unfold trStep
    rw [if_pos rfl]
    split
    · exact h
    · intro o ho
      rcases List.mem_append.mp ho with ho | ho
      · exact h o ho
      · rw [List.mem_singleton.mp ho]; trivial
  · rw [tr_q]; exact hs _ (.inl rfl)
  · rw [tr_a]; exact hs _ (.inr (.inl rfl))
  · rw [tr_b]; exact hs _ (.inr (.inr (.inl rfl)))
  · rw [tr_ab]; exact hs _ (.inr (.inr (.inr (.inl rfl))))
  · rw [tr_na]; exact hs _ (.inr (.inr (.inr (.inr rfl))))
theorem tokOk_fold : ∀ (row : List Str) (acc : List (Option Str)), (∀ o ∈ acc, tokOk o) → (∀ p ∈ row, pieceOk p) → ∀ o ∈ row.foldl trStep acc, tokOk o
  | [], _, h, _ => h
  | p :: row, _, h, hp => tokOk_fold row _ (tokOk_step h (hp p (.head _))) fun q hq => hp q (.tail _ hq)
theorem fitIn_take {name : Str} {ns : List Int} (h : fitIn name ns) (o : Option Str) : fitIn name (takeStep name ns o) := by
  cases o with
  | none =>
    refine ⟨fun n hn => ?_, Nat.le_trans (List.length_filter_le _ _) (by rw [List.length_map, List.length_range]; exact Nat.le_refl _)⟩
    obtain ⟨hn, -⟩ := List.mem_filter.mp hn
    obtain ⟨k, hk, rfl⟩ := List.mem_map.mp hn
    have := List.mem_range.mp hk
    show 0 ≤ (k : Int) ∧ (k : Int) ≤ _
    omega
  | some x =>
    refine ⟨fun n hn => ?_, Nat.le_trans (by unfold takeStep; rw [List.length_map]; exact List.length_filter_le _ _) h.2⟩
    obtain ⟨k, hk, rfl⟩ := List.mem_map.mp hn
    obtain ⟨hk, h2⟩ := List.mem_filter.mp hk
    have h3 := h.1 k hk
    have h4 : k < name.length := of_decide_eq_true (Bool.and_eq_true_iff.mp h2).1
    show 0 ≤ k + 1 ∧ k + 1 ≤ _
    omega
theorem fresh_ne {h₀ h : Heap} {L l : Addr} {news : List (Addr × Obj)} (N : News h₀ L h news) (hn : h.get? l = none) : ∀ p ∈ news, p.1 ≠ l := fun p hp q => by
  have := (N p hp).1
  rw [q, hn] at this; cases this
theorem fresh_news {h₀ h h' : Heap} {L l : Addr} {m : Str → Option Value} {o : Obj} {news : List (Addr × Obj)} (F : Fr h₀ L h m) (hn : h.get? l = none) (ho : h'.get? l = some o) (N : News h₀ L h' news) : News h₀ L h' ((l, o) :: news) := fun p hp => by
  rcases List.mem_cons.mp hp with rfl | hp
  · refine ⟨ho, fun q => ?_, ?_⟩
    · obtain ⟨x, es, ep, e, -⟩ := F.ns
      dsimp only at q
      rw [← q, hn] at e; cases e
    · cases e : h₀.get? l with
      | none => rfl
      | some x => have := F.keep _ _ e; rw [hn] at this; cases this
  · exact N p hp
theorem tr_len : ∀ (row : List Str) (acc : List (Option Str)), (row.foldl trStep acc).length ≤ acc.length + row.length
  | [], acc => Nat.le_refl _
  | p :: row, acc => by
    have h1 : (trStep acc p).length ≤ acc.length + 1 := by
      unfold trStep
      split
      · split
        · omega
        · rw [List.length_append]; exact Nat.le_refl _
      · rw [List.length_append]; exact Nat.le_refl _
    have h2 := tr_len row (trStep acc p)
    rw [List.foldl_cons, List.length_cons]
    omega
theorem is_str_ref {M : Model} {A : Around} {E : Value → Shared → Prop} {s : Shared} {x : Str} {t : Tok} {a : Addr} {Q : Value → Shared → Prop} (h : Q (.bool false) s) : wpAny M A (compareOp .Is (.str x t) (.ref a)) Q E s := by
  have e : (Value.str x t == Value.ref a) = false := by simp
  exact wpAny_pure (a := Value.bool (Value.str x t == Value.ref a)) (by rw [e]; exact h)
theorem is_ref_same {M : Model} {A : Around} {E : Value → Shared → Prop} {s : Shared} {a : Addr} {Q : Value → Shared → Prop} (h : Q (.bool true) s) : wpAny M A (compareOp .Is (.ref a) (.ref a)) Q E s := by
  show wpAny M A (do return Value.bool (← isSame (.ref a) (.ref a))) Q E s
  unfold isSame
  simp only [beq_self_eq_true, if_true]
  exact wpAny_bind (wpAny_pure (wpAny_pure h))
theorem take_no {outs : List Value} {ns : List Int} {j : Nat} {k : Int} {f : Int → Bool} {g : Int → Int} (hnk : ns[j]? = some k) (hJ : IntsAre outs (((ns.take j).filter f).map g)) (h : f k = false) : IntsAre outs (((ns.take (j + 1)).filter f).map g) := by
  rw [take_snoc hnk, List.filter_append, List.map_append, List.filter_cons, h]
  simpa using hJ
theorem take_yes {outs : List Value} {ns : List Int} {j : Nat} {k : Int} {f : Int → Bool} {g : Int → Int} {u : Tok} (hnk : ns[j]? = some k) (hJ : IntsAre outs (((ns.take j).filter f).map g)) (h : f k = true) : IntsAre (outs ++ [.int (g k) u]) (((ns.take (j + 1)).filter f).map g) := by
  rw [take_snoc hnk, List.filter_append, List.map_append, List.filter_cons, h]
  exact hJ.append (.cons _ _ .nil)
theorem AtS.self (x : Str) : AtS x 0 x := ⟨Str.empty, Str.empty, by rw [empty_app, str_app_empty], rfl⟩
theorem ch_ca : (Str.ofString "[^a]").cps[0]? = some 91 := by decide +kernel
theorem ch_cb : (Str.ofString "[^a]").cps[1]? = some 94 := by decide +kernel
theorem hits_q (name : Str) (k : Int) : hits name k (Str.ofString "?") = true := by unfold hits; rw [if_pos rfl]
theorem hits_a (name : Str) (k : Int) : hits name k (Str.ofString "a") = (Str.ofString "a" == Txt.item name k) := by unfold hits; rw [if_neg (by decide), if_neg (by decide), if_neg (by decide)]
theorem hits_b (name : Str) (k : Int) : hits name k (Str.ofString "b") = (Str.ofString "b" == Txt.item name k) := by unfold hits; rw [if_neg (by decide), if_neg (by decide), if_neg (by decide)]
theorem hits_ab (name : Str) (k : Int) : hits name k (Str.ofString "[ab]") = !(Builtin.Str.occurrences (Str.ofString "[ab]") (Txt.item name k) 0 (Str.ofString "[ab]").length 1).isEmpty := by unfold hits; rw [if_neg (by decide), if_pos rfl]
theorem hits_na (name : Str) (k : Int) : hits name k (Str.ofString "[^a]") = (Builtin.Str.occurrences (Str.ofString "[^a]") (Txt.item name k) 0 (Str.ofString "[^a]").length 1).isEmpty := by unfold hits; rw [if_neg (by decide), if_neg (by decide), if_pos rfl]
theorem range_no {outs : List Value} {j : Nat} {f : Int → Bool} (hJ : IntsAre outs (((List.range j).map Int.ofNat).filter f)) (h : f (j : Int) = false) : IntsAre outs (((List.range (j + 1)).map Int.ofNat).filter f) := by
  rw [List.range_succ, List.map_append, List.filter_append]
  have e9 : List.filter f (List.map Int.ofNat [j]) = [] := by
    show List.filter f [(j : Int)] = _
    rw [List.filter_cons, h]; rfl
  rw [e9, List.append_nil]
  exact hJ
theorem range_yes {outs : List Value} {j : Nat} {f : Int → Bool} {u : Tok} (hJ : IntsAre outs (((List.range j).map Int.ofNat).filter f)) (h : f (j : Int) = true) : IntsAre (outs ++ [.int (j : Int) u]) (((List.range (j + 1)).map Int.ofNat).filter f) := by
  rw [List.range_succ, List.map_append, List.filter_append]
  have e9 : List.filter f (List.map Int.ofNat [j]) = [(j : Int)] := by
    show List.filter f [(j : Int)] = _
    rw [List.filter_cons, h]; rfl
  rw [e9]
  exact hJ.append (.cons _ _ .nil)
theorem off7 {I a b c d e f g : Addr} {oa ob oc od oe of og : Obj} (ha : a ≠ I) (hb : b ≠ I) (hc : c ≠ I) (hd : d ≠ I) (he : e ≠ I) (hf : f ≠ I) (hg : g ≠ I) : ∀ p ∈ [(a, oa), (b, ob), (c, oc), (d, od), (e, oe), (f, of), (g, og)], p.1 ≠ I :=
  List.forall_mem_cons.mpr ⟨ha, List.forall_mem_cons.mpr ⟨hb, List.forall_mem_cons.mpr ⟨hc, List.forall_mem_cons.mpr ⟨hd, List.forall_mem_cons.mpr ⟨he, List.forall_mem_cons.mpr ⟨hf, List.forall_mem_cons.mpr ⟨hg, fun _ h => nomatch h⟩⟩⟩⟩⟩⟩⟩


local macro_rules | `(tactic| walk_at "m_hP") => `(tactic| (with_reducible rename AtS _ _ _ => hP9))
example : True := by
  k_with_none
  k_with "my m_enter" => ((refine' enter0 ?k1 ?k2 ?k3 ?k5 ?kA ?kF ?kK ?k6 ?k7 ?k8 ?k9 ?kB ?_ ?c2 ?c3 ?c4 ?c5; (case kA => exact rfl); (case kF => exact rfl); (case kK => assumption); (case k1 => k_asm); (case k2 => k_asm); (case k3 => k_asm); (case k5 => k_asm); (case k6 => k_is); (case k7 => k_is); (case k8 => ktr_room); (case k9 => exact BindsTo.of_eq rfl); (case c5 => decide); (case kB => exact locs rfl); (case c2 => exact rfl); (case c3 => exact rfl); (case c4 => exact rfl); k_whole))
  k_with "my call builtin:issubclass" => ((k_here; (with_reducible show wpAny _ _ (call _ [Value.type _, Value.ref _]) _ _ _); k_dflt (refine' call_iss ?k1 ?_; (case k1 => exact News.get (by k_asm) (by k_mem)))))
  k_with "my m_start" => ((refine wpAny_call ?_; k_dflt (walk_at "m_enter")))
  k_with "my m_use" => (((case kB => k_asm); (case kF => k_asm); (case kX => k_asm); (case kN => k_asm); (case kT => k_asm); (case kK => first | exact rfl | assumption); (case kD => ktr_room); (case kU => ktr_units)))
  k_with "my exec For Name Name cons nil" => ((k_here; refine Stop.out ?_))
  k_with "my exec For Tuple Name cons nil" => ((k_here; refine Stop.out ?_))
  k_with "my eval ListComp Call cons" => ((k_here; refine Stop.out ?_))
  k_with "my eval ListComp Name cons" => ((k_here; refine Stop.out ?_))
  k_with "my eval ListComp BinOp cons" => ((k_here; refine Stop.out ?_))
  k_with "my eval ListComp Tuple cons" => ((k_here; refine Stop.out ?_))
  k_with "my m_loc" => (first
  | exact rfl
  | with_reducible assumption
  | (refine Eq.trans (if_neg (by decide)) ?_; walk_at "m_loc")
  | ((with_reducible rename (∀ y : PySem.Str, y ≠ _ → _ = _) => hm9); refine Eq.trans (hm9 _ (by decide)) ?_; walk_at "m_loc"))
  k_with "my truthy ref" => ((k_here; (with_reducible show wpAny _ _ (truthy (Value.ref _)) _ _ _); k_dflt (refine' kgr_truthy ?N ?hm ?hc ?hd ?hf ?_; (case N => k_asm); (case hm => k_mem); (case hc => exact rfl); (case hd => exact rfl); (case hf => ((try simp only [strValues_length, List.length_append, List.length_cons, List.length_nil]); omega)); k_whole; (simp only [snoc_isEmpty, List.isEmpty_nil, Bool.not_true, Bool.not_false]))))
  k_with "my call builtin:list.append" => ((k_here; (with_reducible show wpAny _ _ (call (Value.builtin _) [Value.ref _, _]) _ _ _); k_dflt (refine' my_append ?F ?N ?U ?z ?_; (case F => k_asm); (case N => k_asm); (case U => k_upd); (case z => (rw [PySem.sizeLine_eq]; (try simp only [strValues_length, List.length_append, List.length_cons, List.length_nil]); omega)); k_whole; intro _ _ _; (try k_sweep))))
  k_with "my call builtin:list.pop" => ((k_here; (with_reducible show wpAny _ _ (call (Value.builtin _) [Value.ref _]) _ _ _); k_dflt (refine' my_pop ?F ?N ?U ?z ?_; (case F => k_asm); (case N => k_asm); (case U => k_upd); (case z => (rw [PySem.sizeLine_eq]; (try simp only [strValues_length, List.length_append, List.length_cons, List.length_nil]); omega)); k_whole; intro _ _ _; (try k_sweep))))
  k_with "my subscriptTail Name UnaryOp ref int" => ((k_here; (with_reducible show wpAny _ _ (subscriptTail _ _ (Value.ref _) (Value.int _ _)) _ _ _); k_dflt (refine' my_last ?N ?hm ?_; (case N => k_asm); (case hm => k_mem); k_whole)))
  k_with "my call builtin:str.join" => ((k_here; (with_reducible show wpAny _ _ (call (Value.builtin _) [Value.str _ _, Value.ref _]) _ _ _); k_dflt (refine' join_list (News.isList ?N ?hm) ?S ?ok ?_; (case N => k_asm); (case hm => k_mem); (case S => with_reducible assumption); (case ok => ((simp only [show (Str.ofString "/").length = 1 from rfl, show (Str.ofString "").length = 0 from rfl]); omega)); k_whole; intro _ _)))
  k_with "my binaryOp Add str str" => ((k_here; (with_reducible show wpAny _ _ (binaryOp Operator.Add (Value.str _ _) (Value.str _ _)) _ _ _); k_dflt (refine' SBL.add (hsz := ?z) ?_; (case z => (rw [PySem.sizeLine_eq]; (try simp only [show (Str.ofString "/").length = 1 from rfl]); omega)); k_whole; intro _ _)))
  k_with "my truthy str" => ((k_here; (with_reducible show wpAny _ _ (PySem.truthy (Value.str _ _)) _ _ _); k_dflt (refine' KXt.truthy_pos (K := 16777216) ?za ?zb (Nat.le_refl _) ?_; (case za => omega); (case zb => omega); k_whole; intro _)))
  k_with "my eval Name" => (((k_here; (with_reducible rename NsObj _ _ => nX9); k_dflt (refine' ldVarK (NsObj.ns nX9 (News.get ?N ?hm)) ?hv ?_; (case N => k_asm); (case hm => k_mem); (case hv => with_reducible assumption); k_whole)); (try walk_at "m_hX")))
  k_with "my call builtin:str.join" => ((k_here; (with_reducible show wpAny _ _ (call (Value.builtin _) [Value.str _ _, Value.ref _]) _ _ _); k_dflt (refine' join_list ?hl ?S ?ok ?_; (case hl => exact Heap.IsList.at (by with_reducible assumption) (Fr.keep (by k_asm) _)); (case S => with_reducible assumption); (case ok => ((simp only [show (Str.ofString "/").length = 1 from rfl, show (Str.ofString "").length = 0 from rfl]); omega)); k_whole; intro _ _)))
  k_with "my eval Name" => (((k_here; (with_reducible rename Fr _ _ _ _ => kF); (with_reducible rename NsObj _ _ => nX9); k_dflt (refine' nameG_B kF ?k1 ?k2 ?k3 ?k4 ?k5 ?_ ?k6 ?k7 ?k8 ?k9 ?k10; (case k1 => k_asm); (case k2 => k_asm); (case k3 => k_is); (case k4 => boot_by_name); (case k5 => decide); (case k6 => exact rfl); (case k7 => exact rfl); (case k8 => exact rfl); (case k9 => exact rfl); (case k10 => decide); k_whole)); (try walk_at "m_hF"); (try walk_at "m_hX")))
  k_with "my binaryOp Add ref ref" => ((k_here; (with_reducible show wpAny _ _ (binaryOp Operator.Add (Value.ref _) (Value.ref _)) _ _ _); k_dflt (refine' add_lists ?F ?N (News.isList ?N1 ?m1) (News.isList ?N2 ?m2) ?_ ?z; (case F => k_asm); (case N => k_asm); (case N1 => k_asm); (case m1 => k_mem); (case N2 => k_asm); (case m2 => k_mem); (case z => (rw [PySem.sizeLine_eq]; (try simp only [List.length_append, List.length_cons, List.length_nil]); omega)); k_whole; intro _ _ _; (try k_sweep))))
  k_with "my call builtin:len" => ((k_here; (with_reducible show wpAny _ _ (call _ [Value.ref _]) _ _ _); k_dflt (refine' len_list ?hl ?hf ?_; (case hl => exact Heap.IsList.at (by with_reducible assumption) (Fr.keep (by k_asm) _)); (case hf => ((simp only [List.size_toArray]); omega)); k_whole; (try simp only [List.size_toArray]))))
  k_with "my call type:bytes" => ((k_here; (with_reducible show wpAny _ _ (call (Value.type _) [Value.ref _]) _ _ _); k_dflt (refine' bytes_K ?F ?N (News.isList ?N1 ?m1) ?i ?r ?z ?h ?_; (case F => k_asm); (case N => k_asm); (case N1 => k_asm); (case m1 => k_mem); (case i => with_reducible assumption); (case r => with_reducible assumption); (case z => (rw [PySem.sizeLine_eq]; omega)); (case h => exact rfl); k_whole; intro _ _ _ _ _ _; (try k_sweep))))
  k_with "my eval Name" => (((k_here; (with_reducible rename Fr _ _ _ _ => kF); k_dflt (refine' nameX_L kF ?k2 ?_ ?a ?b; (case b => exact rfl); (case a => exact rfl); (case k2 => walk_at "m_loc"); k_whole); (try dsimp only)); (try walk_at "m_hF")))
  k_with "my eval Name" => (((k_here; (with_reducible rename News _ _ _ _ => kN); k_dflt (refine' nameX_C kN ?hc ?hm ?hd ?_ ?a ?b; (case b => exact rfl); (case a => exact rfl); (case hc => exact rfl); (case hm => k_mem); (case hd => with_reducible assumption); k_whole)); (try walk_at "m_hN")))
  k_with "my m_enterC" => ((refine' enterC0 ?k1 ?k2 ?k3 ?k5 ?kA ?kF ?kK ?k6 ?k7 ?k8 ?k9 ?kB ?kD ?_ ?c2 ?c3 ?c4; (case kA => exact rfl); (case kF => exact rfl); (case kK => assumption); (case k1 => k_asm); (case k2 => k_asm); (case k3 => k_asm); (case k5 => k_asm); (case k6 => k_is); (case k7 => k_is); (case k8 => ktr_room); (case k9 => exact BindsTo.of_eq rfl); (case kB => exact rfl); (case kD => decide +kernel); (case c2 => exact rfl); (case c3 => exact rfl); (case c4 => exact rfl); k_whole))
  k_with "my m_startC" => ((refine wpAny_call ?_; k_dflt (walk_at "m_enterC")))
  k_with "my exec For Name Subscript cons nil" => ((k_here; refine Stop.out ?_))
  k_with "my exec For Name Call cons nil" => ((k_here; refine Stop.out ?_))
  k_with "my pyIter ref" => ((k_here; refine Stop.out ?_))
  k_with "my subscriptTail Name Slice ref ref" => ((k_here; (with_reducible show wpAny _ _ (subscriptTail _ (PySem.Expr.Slice none none (some _) _) (Value.ref _) (Value.ref _)) _ _ _); k_dflt (refine' my_rev ?F ?N ?l ?k ?_ ?s ?t ?z; (case F => k_asm); (case N => k_asm); (case l => exact Heap.IsList.at (by with_reducible assumption) (Fr.keep (by k_asm) _)); (case k => exact IsPart.int _ _); (case s => with_unfolding_all rfl); (case t => kmk_pure); (case z => (rw [PySem.sizeLine_eq]; omega))); k_whole; walk_at "m_i5"))
  k_with "my call type:range" => (((k_here; (with_reducible show wpAny _ _ (call (Value.type _) [Value.int _ _]) _ _ _); (with_reducible rename Fr _ _ _ _ => kF); (with_reducible rename News _ _ _ _ => kN); k_dflt (refine' range1_rows kF kN ?_; k_whole; intro _ _ _ _ _ _ _ _ _)); (try walk_at "m_hF"); (try walk_at "m_hN")))
  k_with "my eval Name" => (((k_here; (with_reducible rename NsObj _ _ => nX9); (with_reducible rename News _ _ _ _ => kN); k_dflt (refine' ldFreeK ?hc ?hv ?_ ?hk ?hl; (case hl => exact rfl); (case hk => exact rfl); (case hc => exact rfl); (case hv => exact ⟨_, News.get kN (by k_mem), by with_reducible assumption⟩); k_whole)); (try walk_at "m_hN"); (try walk_at "m_hX")))
  k_with "my compareOp NotEq ref ref" => ((k_here; (with_reducible show wpAny _ _ (compareOp CmpOp.NotEq (Value.ref _) (Value.ref _)) _ _ _); k_dflt (refine' my_neE (News.isList ?N1 ?m1) ?i1 (News.isList ?N2 ?m2) ?u ?_; (case N1 => k_asm); (case m1 => k_mem); (case i1 => with_reducible assumption); (case N2 => k_asm); (case m2 => k_mem); (case u => units_room); k_whole; (try simp only [List.isEmpty_cons, List.isEmpty_nil, Bool.not_true, Bool.not_false]))))
  k_with "my call builtin:max" => ((k_here; (with_reducible show wpAny _ _ (call (Value.builtin _) [Value.ref _]) _ _ _); k_dflt (refine' kso_max ?F ?N (News.isList ?N1 ?m1) ?i1 ?z ?hh ?_; (case F => k_asm); (case N => k_asm); (case N1 => k_asm); (case m1 => k_mem); (case i1 => with_reducible assumption); (case z => (simp only [List.length_cons]; omega)); (case hh => with_unfolding_all rfl); k_whole; intro _ _ _ _ _ _ _ _)))
  k_with "my call builtin:min" => ((k_here; (with_reducible show wpAny _ _ (call (Value.builtin _) [Value.ref _]) _ _ _); k_dflt (refine' kso_min ?F ?N (News.isList ?N1 ?m1) ?i1 ?z ?hh ?_; (case F => k_asm); (case N => k_asm); (case N1 => k_asm); (case m1 => k_mem); (case i1 => with_reducible assumption); (case z => (simp only [List.length_cons]; omega)); (case hh => with_unfolding_all rfl); k_whole; intro _ _ _ _ _ _ _ _)))
  k_with "my m_enterCT" => ((refine' enterCT ?k1 ?k2 ?k3 ?k5 ?kN ?kA ?kF ?kK ?k6 ?k7 ?k8 ?k9 ?kB ?kD ?_ ?c2 ?c3 ?c4; (case kA => exact rfl); (case kF => exact rfl); (case kK => assumption); (case k1 => k_asm); (case k2 => k_asm); (case k3 => k_asm); (case kN => k_asm); (case k5 => k_asm); (case k6 => k_is); (case k7 => k_is); (case k8 => ktr_room); (case k9 => exact BindsTo.of_eq rfl); (case kB => exact rfl); (case kD => decide +kernel); (case c2 => exact rfl); (case c3 => exact rfl); (case c4 => exact rfl); k_whole))
  k_with "my m_startCT" => ((refine wpAny_call ?_; k_dflt (walk_at "m_enterCT")))
  k_with "my setAttr ref" => ((k_here; k_dflt (refine' setattr_K ?F ?N ?U ?_; (case F => k_asm); (case N => k_asm); (case U => k_updF); k_whole); walk_at "m_i8"))
  k_with "my getMethod ref" => ((k_here; k_dflt (refine' getread_K ?N ?h1 ?h2 ?hn ?h3 ?_; (case N => k_asm); (case h1 => k_mem); (case h2 => k_mem); (case hn => with_reducible assumption); (case h3 => k_mem); k_whole); intro _))
  k_with "my exec FunctionDef" => ((k_here; k_dflt (refine' nestDef_K ?d0 ?k0 ?a0 ?_; (case d0 => exact rfl); (case k0 => exact rfl); (case a0 => exact rfl)); refine Stop.out ?_))
  k_with "my eval Lambda" => ((k_here; k_dflt (refine' kla_eval ?d0 ?_; (case d0 => exact rfl)); refine Stop.out ?_))
  k_with "my call ref" => ((k_here; (with_reducible show wpAny _ _ (call (Value.ref 76) [Value.str _ _, Value.ref _, Value.str _ _]) _ _ _); refine Stop.out ?_))
  k_with "my call type:object" => ((k_here; k_dflt (refine' call_object ?F ?N ?_; (case F => k_asm); (case N => k_asm)); k_whole; walk_at "m_i5"))
  k_with "my compareOp Is str ref" => ((k_here; (with_reducible show wpAny _ _ (compareOp CmpOp.Is (Value.str _ _) (Value.ref _)) _ _ _); refine is_str_ref ?_))
  k_with "my compareOp Is ref ref" => ((k_here; (with_reducible show wpAny _ _ (compareOp CmpOp.Is (Value.ref _) (Value.ref _)) _ _ _); with_reducible refine is_ref_same ?_))
  k_with "my m_ch" => (first | exact ch_0 | exact ch_1 | exact ch_4 | exact ch_5 | exact ch_ca | exact ch_cb)
  k_with "my subscriptTail Name Constant str int" => ((k_here; (with_reducible show wpAny _ _ (subscriptTail _ _ (Value.str _ _) (Value.int _ _)) _ _ _); k_dflt (first | (refine' item_as (d := 0) (AtS.self _) ?z ?c ?l ?_; (case z => decide)) | (refine' item_as (d := 1) (AtS.self _) ?z ?c ?l ?_; (case z => decide))); (case c => walk_at "m_ch"); (case l => decide)))
  k_with "my eval Name" => (k_here; dsimp only)
  k_with "my eval Constant int" => (k_here; dsimp only)
  k_with "my eval Constant str" => (k_here; dsimp only)
  k_with "my m_fold" => (((first | (with_reducible show wpAny _ _ (PySem.execs _ _) _ _ _) | (with_reducible show wpAny _ _ (PySem.exec _ _) _ _ _)); (first | ((fail_if_success (have := qk0)); k_fold; (rename PySem.Flow → PySem.Shared → Prop => qk0); (rename PySem.Value → PySem.Shared → Prop => ek0)) | ((fail_if_success (have := qk1)); k_fold; (rename PySem.Flow → PySem.Shared → Prop => qk1); (rename PySem.Value → PySem.Shared → Prop => ek1)) | ((fail_if_success (have := qk2)); k_fold; (rename PySem.Flow → PySem.Shared → Prop => qk2); (rename PySem.Value → PySem.Shared → Prop => ek2)) | ((fail_if_success (have := qk3)); k_fold; (rename PySem.Flow → PySem.Shared → Prop => qk3); (rename PySem.Value → PySem.Shared → Prop => ek3)) | ((fail_if_success (have := qk4)); k_fold; (rename PySem.Flow → PySem.Shared → Prop => qk4); (rename PySem.Value → PySem.Shared → Prop => ek4)) | ((fail_if_success (have := qk5)); k_fold; (rename PySem.Flow → PySem.Shared → Prop => qk5); (rename PySem.Value → PySem.Shared → Prop => ek5)) | ((fail_if_success (have := qk6)); k_fold; (rename PySem.Flow → PySem.Shared → Prop => qk6); (rename PySem.Value → PySem.Shared → Prop => ek6)) | ((fail_if_success (have := qk7)); k_fold; (rename PySem.Flow → PySem.Shared → Prop => qk7); (rename PySem.Value → PySem.Shared → Prop => ek7)) | ((fail_if_success (have := qk8)); k_fold; (rename PySem.Flow → PySem.Shared → Prop => qk8); (rename PySem.Value → PySem.Shared → Prop => ek8)) | ((fail_if_success (have := qk9)); k_fold; (rename PySem.Flow → PySem.Shared → Prop => qk9); (rename PySem.Value → PySem.Shared → Prop => ek9)) | ((fail_if_success (have := qk10)); k_fold; (rename PySem.Flow → PySem.Shared → Prop => qk10); (rename PySem.Value → PySem.Shared → Prop => ek10)) | ((fail_if_success (have := qk11)); k_fold; (rename PySem.Flow → PySem.Shared → Prop => qk11); (rename PySem.Value → PySem.Shared → Prop => ek11)) | ((fail_if_success (have := qk12)); k_fold; (rename PySem.Flow → PySem.Shared → Prop => qk12); (rename PySem.Value → PySem.Shared → Prop => ek12)) | ((fail_if_success (have := qk13)); k_fold; (rename PySem.Flow → PySem.Shared → Prop => qk13); (rename PySem.Value → PySem.Shared → Prop => ek13)) | ((fail_if_success (have := qk14)); k_fold; (rename PySem.Flow → PySem.Shared → Prop => qk14); (rename PySem.Value → PySem.Shared → Prop => ek14)) | ((fail_if_success (have := qk15)); k_fold; (rename PySem.Flow → PySem.Shared → Prop => qk15); (rename PySem.Value → PySem.Shared → Prop => ek15)))))
  k_with "my m_tidy" => (((try clear qk15); (try clear ek15)); ((try clear qk14); (try clear ek14)); ((try clear qk13); (try clear ek13)); ((try clear qk12); (try clear ek12)); ((try clear qk11); (try clear ek11)); ((try clear qk10); (try clear ek10)); ((try clear qk9); (try clear ek9)); ((try clear qk8); (try clear ek8)); ((try clear qk7); (try clear ek7)); ((try clear qk6); (try clear ek6)); ((try clear qk5); (try clear ek5)); ((try clear qk4); (try clear ek4)); ((try clear qk3); (try clear ek3)); ((try clear qk2); (try clear ek2)); ((try clear qk1); (try clear ek1)); ((try clear qk0); (try clear ek0)))
  k_with "my execs cons" => (first | (k_here; k_gentoks) | (k_here; walk_at "m_fold") | (k_here; walk_at "m_tidy"; (with_reducible refine wpAny_execs_cons ?_); (try dsimp only); (try walk_at "m_fold")))
  trivial


set_option maxHeartbeats 8000000 in
theorem takes_spec (w : World) (row : List Str) (pat name : Str) (t u : Tok) (hpat : pat = Str.join (Str.ofString "") row) (hln : name.length ≤ 2) (hrl : row.length ≤ 3) (hpo : ∀ p ∈ row, pieceOk p) :
    Spec71 w 225 40 240 (fun _ => True) [.str pat t, .str name u] (fun _ v => v = .bool (takesB row name)) 74 39 := by
  intro p loose mean mg mb dp un gd cn cs a ccd cl outer A₀ base h₀ L m s Q E ps B F X T hk hd hu htb N hpre hret
  walk_at "m_startCT"
  intro g L' h₁ tk₁ cells hg F' N' Y' lt' B' X' T'
  refine hide ?_
  intro Gq hGq
  obtain ⟨o3, o2, o1, hE, d3, d2, d1⟩ := PyProof.Rows.CellsAre.three Y'
  refine hGq ?_
  clear hGq Gq
  subst hE
  clear Y'
  replace lt' : 71 < L' := lt' _ (.head _)
  k_lt2 lt'
  try dsimp only
  clear B F X T N
  replace d1 : o1.data = .cell (some (.str name u)) := d1.trans (by kernel_rfl)
  replace d2 : o2.data = .cell none := d2.trans (by kernel_rfl)
  replace d3 : o3.data = .cell none := d3.trans (by kernel_rfl)
  obtain ⟨m0, F', hpt⟩ : ∃ m0, Fr g L' h₁ m0 ∧ m0 (Str.ofString "pattern") = some (.str pat t) := ⟨_, F', by kernel_rfl⟩
  replace N' : News g L' h₁ [(L' + 1 + 1 + 1, o3), (L' + 1 + 1, o2), (L' + 1, o1), (71, tabObj ps)] := N'
  (all_goals try walk_at "m_fold")
  k_steps
  refine Stop.go (wpAny_For ?_)
  (all_goals try walk_at "m_fold")
  k_steps
  with_reducible rename Fr _ _ _ _ => F2
  with_reducible rename News _ _ _ _ => N2
  rename_i star hA lS hB _ P hC lP hD o2' d2'
  refine Stop.go ?_
  refine' use71 (translate_spec w _ star row pat _ _ hpat hrl hpo) B' F2 X' N2 T' rfl ?kD ?kU htb ?U rfl ?_
  case kD => ktr_room
  case kU => ktr_units
  case U => k_updF
  rintro v h9 tk9 ps9 htb9 hk9 hq0 F9 N9
  ((try dsimp only); (try walk_at "m_fold"))
  refine hide ?_
  intro Gq hGq
  obtain ⟨l, vs, nl, rfl, hln0, hl9, hvs⟩ := hq0
  refine hGq ?_
  clear hGq Gq
  have nePl := neN (fresh_ne N2 hln0 _ (.head _))
  have neSl := neN (fresh_ne N2 hln0 _ (.tail _ (.head _)))
  have ne3l := neN (fresh_ne N2 hln0 _ (.tail _ (.tail _ (.head _))))
  have ne2l := neN (fresh_ne N2 hln0 _ (.tail _ (.tail _ (.tail _ (.head _)))))
  have ne1l := neN (fresh_ne N2 hln0 _ (.tail _ (.tail _ (.tail _ (.tail _ (.head _))))))
  have ne71l := neN (fresh_ne N2 hln0 _ (.tail _ (.tail _ (.tail _ (.tail _ (.tail _ (.head _)))))))
  replace N9 := fresh_news F2 hln0 hl9 N9
  dsimp only at N9 nePl neSl ne3l ne2l ne1l ne71l
  clear N2 F2 hln0 hl9 hk9
  (all_goals try walk_at "m_fold")
  k_steps
  with_reducible rename Fr _ _ _ _ => F2
  with_reducible rename News _ _ _ _ => N2
  refine Stop.go ?_
  have htk : ∀ o ∈ List.foldl trStep [] row, tokOk o := tokOk_fold row [] nofun hpo
  have hcount : (List.foldl trStep [] row).length ≤ 3 := (by have := tr_len row []; rw [List.length_nil, Nat.zero_add] at this; exact Nat.le_trans this hrl)
  unfold takesB at hret
  clear hpat hpo
  generalize List.foldl trStep [] row = toks at hvs htk hret hcount
  refine iter_list (vs := vs) (fun i m news => ∃ (P : Addr) (vals : List Value) (n : Nat) (o2 o3 : Obj) (c : Option Value), m (Str.ofString "star") = some (.ref star) ∧
      news = [(l, W.listOf vs.toArray nl), (P, W.listOf vals.toArray n), (star, objO), (L' + 1 + 1 + 1, o3), (L' + 1 + 1, o2), (L' + 1, o1), (71, tabObj ps9)] ∧
      IntsAre vals ((toks.take i).foldl (takeStep name) [0]) ∧ fitIn name ((toks.take i).foldl (takeStep name) [0]) ∧ o2.data = .cell (some (.ref P)) ∧ o3.data = .cell c ∧ star < P ∧ P ≠ l) rfl (News.isList N2 (by k_mem)) F2 N2
      ⟨P, _, 0, _, _, _, rfl, rfl, ?_, ?_, d2', d3, lP.1, nePl⟩ ?_ ?_ ?_
  · exact .cons _ _ .nil
  · refine ⟨fun n hn => ?_, ?_⟩
    · rw [List.mem_singleton.mp hn]
      omega
    · simp
  · rintro i m₁ news₁ h hq0 Fi Ni
    ((try dsimp only); (try walk_at "m_fold"))
    refine hide ?_
    intro Gq hGq
    obtain ⟨P, vals, n, o2, o3, c, -, rfl, -⟩ := hq0
    refine hGq ?_
    clear hGq Gq
    exact News.isList Ni (by k_mem)
  · rintro i v m₁ news₁ h tk I oI hv hq0 hI hne hLI Fi Ni
    ((try dsimp only); (try walk_at "m_fold"))
    refine hide ?_
    intro Gq hGq
    obtain ⟨P', vals, n, o2, o3, c, mst, rfl, hvals, hin, d2, d3, lP', hPl⟩ := hq0
    refine hGq ?_
    clear hGq Gq
    obtain ⟨o, hoi, hpart⟩ := hvs.get hv
    have hok := htk o (List.mem_of_getElem? hoi)
    generalize hns : (toks.take i).foldl (takeStep name) [0] = ns at hvals hin
    have hnext : (toks.take (i + 1)).foldl (takeStep name) [0] = takeStep name ns o := by
      rw [take_snoc hoi, List.foldl_append, hns]; rfl
    replace Fi : Fr g L' h _ := Fi
    replace Ni : News g L' h _ := Ni
    have hIl := neN (hne _ (.head _))
    have hIP := neN (hne _ (.tail _ (.head _)))
    dsimp only at hIl hIP
    clear hne
    k_lt hI
    k_lt2 lP'
    replace hPl := neN hPl
    have lS' := lS.1
    rcases o with _ | x
    · obtain rfl : v = .ref star := hpart
      (all_goals try walk_at "m_fold")
      k_steps
      refine Stop.go (eval_comp (cl := [(Str.ofString "places", L' + 1 + 1)]) (by rfl) rfl (by decide) ?_)
      (all_goals try walk_at "m_fold")
      k_steps
      with_reducible rename Fr _ _ _ _ => F3
      with_reducible rename News _ _ _ _ => N3
      with_reducible rename IsRange _ _ _ _ _ _ _ _ => hR
      with_reducible rename (_ : Obj).data = Data.cell (some (Value.ref star)) => d3n
      refine led_hide N3 fun led hled N4 => map_hide F3 fun m2 hm2 F4 => ?_
      refine Stop.go ?_
      refine comp_range (n := name.length + 1) (m₀ := m2) (news₀ := led) (fun j outs news => news = led ∧ IntsAre outs (((List.range j).map Int.ofNat).filter fun k => ns.any fun a => decide (a ≤ k))) (fun _ _ _ _ => False)
        rfl hR (by omega) (by decide) rfl rfl F4 N4 ⟨rfl, .nil⟩ (fun _ _ _ _ x => x.elim) ?_ ?_
      · rintro j u outs news₁ h2 tk2 I2 oI2 D2 C oC mC nD hj ⟨rfl, hJ⟩ hnC hmC hne2 hI2 hDC hID Fh Nh
        refine wpAny_tests_one ?_
        clear hm2 F3 N3 F4 N4
        subst hled
        k_lt hI2
        k_lt2 hDC
        k_lt2 hID
        replace Fh : Fr g L' h2 _ := Fh
        replace Nh : News g L' h2 _ := Nh
        rcases ns with _ | ⟨n0, nr⟩
        · (all_goals try walk_at "m_fold")
          k_steps
          refine MakeEnd.go _ (by k_asm) (by k_asm) (by k_allIn) (by k_allIn) (off3 hne2) ⟨rfl, ?_⟩
          exact range_no hJ rfl
        · (all_goals try walk_at "m_fold")
          k_steps
          · refine MakeEnd.go _ (by k_asm) (by k_asm) (by k_allIn) (by k_allIn) (off3 hne2) ⟨rfl, ?_⟩
            rename_i hM hMa hjM
            exact range_yes hJ (List.any_eq_true.mpr ⟨_, hM, decide_eq_true hjM⟩)
          · refine MakeEnd.go _ (by k_asm) (by k_asm) (by k_allIn) (by k_allIn) (off3 hne2) ⟨rfl, ?_⟩
            rename_i hM hMa hjM
            refine range_no hJ ?_
            rw [List.any_eq_false]
            intro a ha hja
            have := hMa a ha
            have := of_decide_eq_true hja
            omega
      · rintro outs news₁ h2 tk2 D2 nD ⟨rfl, hJ⟩ Fh Nh hne2 hlt
        subst hm2
        clear F3 N3 F4 N4
        subst hled
        k_lt hlt
        replace Fh : Fr g L' h2 _ := Fh
        replace Nh : News g L' h2 _ := Nh
        have hIh : I < h2.objs.size := Heap.lt_size (Nh (I, oI) (by k_mem)).1
        (all_goals try walk_at "m_fold")
        k_steps
        rename_i hE o2n FE NE d2n
        refine TurnEnd.goS [(l, W.listOf vs.toArray nl), (D2, _), (star, _), (L' + 1 + 1 + 1, _), (L' + 1 + 1, _), (L' + 1, _), (71, _)] FE NE (by k_allIn) (off7 (Nat.ne_of_lt hI.1) (Nat.ne_of_gt hlt.1) (Nat.ne_of_lt hI.2.2.1) (Nat.ne_of_lt hI.2.2.2.1) (Nat.ne_of_lt hI.2.2.2.2.1) (Nat.ne_of_lt hI.2.2.2.2.2.1) (Nat.ne_of_lt hI.2.2.2.2.2.2)) ⟨D2, outs, nD, o2n, _, _, mst, rfl, ?_, ?_, d2n, d3n, ?_, ?_⟩
        · rw [hnext]; exact hJ
        · rw [hnext]; exact fitIn_take hin _
        · exact hlt.2.2.2.1
        · exact Nat.ne_of_gt hlt.2.1
    · obtain ⟨tx, rfl⟩ : ∃ t, v = .str x t := hpart
      rcases hok with rfl | rfl | rfl | rfl | rfl
      · skip
        (all_goals try walk_at "m_fold")
        k_steps
        refine Stop.go (eval_comp (cl := [(Str.ofString "name", L' + 1)]) (by rfl) rfl (by decide) ?_)
        (all_goals try walk_at "m_fold")
        k_steps
        with_reducible rename Fr _ _ _ _ => FG
        with_reducible rename News _ _ _ _ => NG
        with_reducible rename (_ : Obj).data = Data.cell (some (Value.str _ _)) => d3n
        have hvl : vals.length ≤ 1000 := by
          have := hin.2
          rw [hvals.length]; omega
        refine led_hide NG fun led hled N6 => map_hide FG fun m2 hm2 F6 => ?_
        refine Stop.go ?_
        refine comp_list (vs := vals) (l := P') (m₀ := m2) (news₀ := led) (fun j outs news => news = led ∧ IntsAre outs (((ns.take j).filter fun k : Int => decide (k < (name.length : Int)) && hits name k (Str.ofString "?")).map (· + 1)))
          (fun _ v m' => m' (Str.ofString "k") = some v) (fun _ _ _ _ => False) rfl (by rw [sizeLine_eq]; omega) (by decide) rfl (News.isList NG (by k_mem)) F6 N6 ⟨rfl, .nil⟩ ?_
          (fun _ _ _ _ _ _ _ _ _ _ _ hn k => asg_name rfl rfl hn k) (fun _ _ _ _ x => x.elim) ?_ ?_
        · refine ⟨W.listOf vals.toArray n, ?_⟩
          rintro j outs news h2 ⟨rfl, -⟩ - Nx
          rw [hled] at Nx
          exact News.get Nx (by k_mem)
        · rintro j v outs news₁ h2 tk2 I2 oI2 D2 C oC mC nD hj hvj ⟨rfl, hJ⟩ hnC hmC hne2 hI2 hDC hID Fh Nh
          refine wpAny_tests_one ?_
          refine hide ?_
          intro Gq hGq
          obtain ⟨k, uk, rfl, hnk⟩ := IntsAre.at hvals _ _ hvj
          refine hGq ?_
          clear hGq Gq
          have hk9 := hin.1 k (List.mem_of_getElem? hnk)
          clear hm2 FG NG F6 N6
          subst hled
          k_lt hI2
          k_lt2 hDC
          k_lt2 hID
          replace Fh : Fr g L' h2 _ := Fh
          replace Nh : News g L' h2 _ := Nh
          (all_goals try walk_at "m_fold")
          k_steps
          · refine MakeEnd.go _ (by k_asm) (by k_asm) (by k_allIn) (by k_allIn) (off3 hne2) ⟨rfl, take_yes hnk hJ ?_⟩
            rw [hits_q, decide_eq_true (by assumption)]; rfl
          · refine MakeEnd.go _ (by k_asm) (by k_asm) (by k_allIn) (by k_allIn) (off3 hne2) ⟨rfl, take_no hnk hJ ?_⟩
            rw [decide_eq_false (by omega)]; rfl
        · rintro outs news₁ h2 tk2 D2 nD ⟨rfl, hJ⟩ Fh Nh hne2 hlt
          rw [hvals.length, List.take_of_length_le (Nat.le_refl _)] at hJ
          subst hm2
          clear FG NG F6 N6
          subst hled
          k_lt hlt
          replace Fh : Fr g L' h2 _ := Fh
          replace Nh : News g L' h2 _ := Nh
          have hIh : I < h2.objs.size := Heap.lt_size (Nh (I, oI) (by k_mem)).1
          (all_goals try walk_at "m_fold")
          k_steps
          rename_i hE o2n FE NE d2n
          skip
          refine TurnEnd.goS [(l, W.listOf vs.toArray nl), (D2, _), (star, _), (L' + 1 + 1 + 1, _), (L' + 1 + 1, _), (L' + 1, _), (71, _)] FE NE (by k_allIn) (off7 (Nat.ne_of_lt hI.1) (Nat.ne_of_gt hlt.1) (Nat.ne_of_lt hI.2.2.1) (Nat.ne_of_lt hI.2.2.2.1) (Nat.ne_of_lt hI.2.2.2.2.1) (Nat.ne_of_lt hI.2.2.2.2.2.1) (Nat.ne_of_lt hI.2.2.2.2.2.2)) ⟨D2, outs, nD, o2n, _, _, mst, rfl, ?_, ?_, d2n, d3n, ?_, ?_⟩
          · rw [hnext]; exact hJ
          · rw [hnext]; exact fitIn_take hin _
          · exact hlt.2.2.2.1
          · exact Nat.ne_of_gt hlt.2.1
      · skip
        (all_goals try walk_at "m_fold")
        k_steps
        refine Stop.go (eval_comp (cl := [(Str.ofString "part", L' + 1 + 1 + 1), (Str.ofString "name", L' + 1)]) (by rfl) rfl (by decide) ?_)
        (all_goals try walk_at "m_fold")
        k_steps
        with_reducible rename Fr _ _ _ _ => FG
        with_reducible rename News _ _ _ _ => NG
        with_reducible rename (_ : Obj).data = Data.cell (some (Value.str _ _)) => d3n
        have hvl : vals.length ≤ 1000 := by
          have := hin.2
          rw [hvals.length]; omega
        refine led_hide NG fun led hled N6 => map_hide FG fun m2 hm2 F6 => ?_
        refine Stop.go ?_
        refine comp_list (vs := vals) (l := P') (m₀ := m2) (news₀ := led) (fun j outs news => news = led ∧ IntsAre outs (((ns.take j).filter fun k : Int => decide (k < (name.length : Int)) && hits name k (Str.ofString "a")).map (· + 1)))
          (fun _ v m' => m' (Str.ofString "k") = some v) (fun _ _ _ _ => False) rfl (by rw [sizeLine_eq]; omega) (by decide) rfl (News.isList NG (by k_mem)) F6 N6 ⟨rfl, .nil⟩ ?_
          (fun _ _ _ _ _ _ _ _ _ _ _ hn k => asg_name rfl rfl hn k) (fun _ _ _ _ x => x.elim) ?_ ?_
        · refine ⟨W.listOf vals.toArray n, ?_⟩
          rintro j outs news h2 ⟨rfl, -⟩ - Nx
          rw [hled] at Nx
          exact News.get Nx (by k_mem)
        · rintro j v outs news₁ h2 tk2 I2 oI2 D2 C oC mC nD hj hvj ⟨rfl, hJ⟩ hnC hmC hne2 hI2 hDC hID Fh Nh
          refine wpAny_tests_one ?_
          refine hide ?_
          intro Gq hGq
          obtain ⟨k, uk, rfl, hnk⟩ := IntsAre.at hvals _ _ hvj
          refine hGq ?_
          clear hGq Gq
          have hk9 := hin.1 k (List.mem_of_getElem? hnk)
          clear hm2 FG NG F6 N6
          subst hled
          k_lt hI2
          k_lt2 hDC
          k_lt2 hID
          replace Fh : Fr g L' h2 _ := Fh
          replace Nh : News g L' h2 _ := Nh
          (all_goals try walk_at "m_fold")
          k_steps
          · rename_i hX
            refine MakeEnd.go _ (by k_asm) (by k_asm) (by k_allIn) (by k_allIn) (off3 hne2) ⟨rfl, take_yes hnk hJ ?_⟩
            rw [hits_a, hX, decide_eq_true (by assumption)]; rfl
          · rename_i hX
            refine MakeEnd.go _ (by k_asm) (by k_asm) (by k_allIn) (by k_allIn) (off3 hne2) ⟨rfl, take_no hnk hJ ?_⟩
            rw [hits_a, hX, Bool.and_false]
          · refine MakeEnd.go _ (by k_asm) (by k_asm) (by k_allIn) (by k_allIn) (off3 hne2) ⟨rfl, take_no hnk hJ ?_⟩
            rw [decide_eq_false (by omega)]; rfl
        · rintro outs news₁ h2 tk2 D2 nD ⟨rfl, hJ⟩ Fh Nh hne2 hlt
          rw [hvals.length, List.take_of_length_le (Nat.le_refl _)] at hJ
          subst hm2
          clear FG NG F6 N6
          subst hled
          k_lt hlt
          replace Fh : Fr g L' h2 _ := Fh
          replace Nh : News g L' h2 _ := Nh
          have hIh : I < h2.objs.size := Heap.lt_size (Nh (I, oI) (by k_mem)).1
          (all_goals try walk_at "m_fold")
          k_steps
          rename_i hE o2n FE NE d2n
          skip
          refine TurnEnd.goS [(l, W.listOf vs.toArray nl), (D2, _), (star, _), (L' + 1 + 1 + 1, _), (L' + 1 + 1, _), (L' + 1, _), (71, _)] FE NE (by k_allIn) (off7 (Nat.ne_of_lt hI.1) (Nat.ne_of_gt hlt.1) (Nat.ne_of_lt hI.2.2.1) (Nat.ne_of_lt hI.2.2.2.1) (Nat.ne_of_lt hI.2.2.2.2.1) (Nat.ne_of_lt hI.2.2.2.2.2.1) (Nat.ne_of_lt hI.2.2.2.2.2.2)) ⟨D2, outs, nD, o2n, _, _, mst, rfl, ?_, ?_, d2n, d3n, ?_, ?_⟩
          · rw [hnext]; exact hJ
          · rw [hnext]; exact fitIn_take hin _
          · exact hlt.2.2.2.1
          · exact Nat.ne_of_gt hlt.2.1
      · skip
        (all_goals try walk_at "m_fold")
        k_steps
        refine Stop.go (eval_comp (cl := [(Str.ofString "part", L' + 1 + 1 + 1), (Str.ofString "name", L' + 1)]) (by rfl) rfl (by decide) ?_)
        (all_goals try walk_at "m_fold")
        k_steps
        with_reducible rename Fr _ _ _ _ => FG
        with_reducible rename News _ _ _ _ => NG
        with_reducible rename (_ : Obj).data = Data.cell (some (Value.str _ _)) => d3n
        have hvl : vals.length ≤ 1000 := by
          have := hin.2
          rw [hvals.length]; omega
        refine led_hide NG fun led hled N6 => map_hide FG fun m2 hm2 F6 => ?_
        refine Stop.go ?_
        refine comp_list (vs := vals) (l := P') (m₀ := m2) (news₀ := led) (fun j outs news => news = led ∧ IntsAre outs (((ns.take j).filter fun k : Int => decide (k < (name.length : Int)) && hits name k (Str.ofString "b")).map (· + 1)))
          (fun _ v m' => m' (Str.ofString "k") = some v) (fun _ _ _ _ => False) rfl (by rw [sizeLine_eq]; omega) (by decide) rfl (News.isList NG (by k_mem)) F6 N6 ⟨rfl, .nil⟩ ?_
          (fun _ _ _ _ _ _ _ _ _ _ _ hn k => asg_name rfl rfl hn k) (fun _ _ _ _ x => x.elim) ?_ ?_
        · refine ⟨W.listOf vals.toArray n, ?_⟩
          rintro j outs news h2 ⟨rfl, -⟩ - Nx
          rw [hled] at Nx
          exact News.get Nx (by k_mem)
        · rintro j v outs news₁ h2 tk2 I2 oI2 D2 C oC mC nD hj hvj ⟨rfl, hJ⟩ hnC hmC hne2 hI2 hDC hID Fh Nh
          refine wpAny_tests_one ?_
          refine hide ?_
          intro Gq hGq
          obtain ⟨k, uk, rfl, hnk⟩ := IntsAre.at hvals _ _ hvj
          refine hGq ?_
          clear hGq Gq
          have hk9 := hin.1 k (List.mem_of_getElem? hnk)
          clear hm2 FG NG F6 N6
          subst hled
          k_lt hI2
          k_lt2 hDC
          k_lt2 hID
          replace Fh : Fr g L' h2 _ := Fh
          replace Nh : News g L' h2 _ := Nh
          (all_goals try walk_at "m_fold")
          k_steps
          · rename_i hX
            refine MakeEnd.go _ (by k_asm) (by k_asm) (by k_allIn) (by k_allIn) (off3 hne2) ⟨rfl, take_yes hnk hJ ?_⟩
            rw [hits_b, hX, decide_eq_true (by assumption)]; rfl
          · rename_i hX
            refine MakeEnd.go _ (by k_asm) (by k_asm) (by k_allIn) (by k_allIn) (off3 hne2) ⟨rfl, take_no hnk hJ ?_⟩
            rw [hits_b, hX, Bool.and_false]
          · refine MakeEnd.go _ (by k_asm) (by k_asm) (by k_allIn) (by k_allIn) (off3 hne2) ⟨rfl, take_no hnk hJ ?_⟩
            rw [decide_eq_false (by omega)]; rfl
        · rintro outs news₁ h2 tk2 D2 nD ⟨rfl, hJ⟩ Fh Nh hne2 hlt
          rw [hvals.length, List.take_of_length_le (Nat.le_refl _)] at hJ
          subst hm2
          clear FG NG F6 N6
          subst hled
          k_lt hlt
          replace Fh : Fr g L' h2 _ := Fh
          replace Nh : News g L' h2 _ := Nh
          have hIh : I < h2.objs.size := Heap.lt_size (Nh (I, oI) (by k_mem)).1
          (all_goals try walk_at "m_fold")
          k_steps
          rename_i hE o2n FE NE d2n
          skip
          refine TurnEnd.goS [(l, W.listOf vs.toArray nl), (D2, _), (star, _), (L' + 1 + 1 + 1, _), (L' + 1 + 1, _), (L' + 1, _), (71, _)] FE NE (by k_allIn) (off7 (Nat.ne_of_lt hI.1) (Nat.ne_of_gt hlt.1) (Nat.ne_of_lt hI.2.2.1) (Nat.ne_of_lt hI.2.2.2.1) (Nat.ne_of_lt hI.2.2.2.2.1) (Nat.ne_of_lt hI.2.2.2.2.2.1) (Nat.ne_of_lt hI.2.2.2.2.2.2)) ⟨D2, outs, nD, o2n, _, _, mst, rfl, ?_, ?_, d2n, d3n, ?_, ?_⟩
          · rw [hnext]; exact hJ
          · rw [hnext]; exact fitIn_take hin _
          · exact hlt.2.2.2.1
          · exact Nat.ne_of_gt hlt.2.1
      · skip
        (all_goals try walk_at "m_fold")
        k_steps
        refine Stop.go (eval_comp (cl := [(Str.ofString "part", L' + 1 + 1 + 1), (Str.ofString "name", L' + 1)]) (by rfl) rfl (by decide) ?_)
        (all_goals try walk_at "m_fold")
        k_steps
        with_reducible rename Fr _ _ _ _ => FG
        with_reducible rename News _ _ _ _ => NG
        with_reducible rename (_ : Obj).data = Data.cell (some (Value.str _ _)) => d3n
        have hvl : vals.length ≤ 1000 := by
          have := hin.2
          rw [hvals.length]; omega
        refine led_hide NG fun led hled N6 => map_hide FG fun m2 hm2 F6 => ?_
        refine Stop.go ?_
        refine comp_list (vs := vals) (l := P') (m₀ := m2) (news₀ := led) (fun j outs news => news = led ∧ IntsAre outs (((ns.take j).filter fun k : Int => decide (k < (name.length : Int)) && hits name k (Str.ofString "[ab]")).map (· + 1)))
          (fun _ v m' => m' (Str.ofString "k") = some v) (fun _ _ _ _ => False) rfl (by rw [sizeLine_eq]; omega) (by decide) rfl (News.isList NG (by k_mem)) F6 N6 ⟨rfl, .nil⟩ ?_
          (fun _ _ _ _ _ _ _ _ _ _ _ hn k => asg_name rfl rfl hn k) (fun _ _ _ _ x => x.elim) ?_ ?_
        · refine ⟨W.listOf vals.toArray n, ?_⟩
          rintro j outs news h2 ⟨rfl, -⟩ - Nx
          rw [hled] at Nx
          exact News.get Nx (by k_mem)
        · rintro j v outs news₁ h2 tk2 I2 oI2 D2 C oC mC nD hj hvj ⟨rfl, hJ⟩ hnC hmC hne2 hI2 hDC hID Fh Nh
          refine wpAny_tests_one ?_
          refine hide ?_
          intro Gq hGq
          obtain ⟨k, uk, rfl, hnk⟩ := IntsAre.at hvals _ _ hvj
          refine hGq ?_
          clear hGq Gq
          have hk9 := hin.1 k (List.mem_of_getElem? hnk)
          clear hm2 FG NG F6 N6
          subst hled
          k_lt hI2
          k_lt2 hDC
          k_lt2 hID
          replace Fh : Fr g L' h2 _ := Fh
          replace Nh : News g L' h2 _ := Nh
          (all_goals try walk_at "m_fold")
          k_steps
          · rename_i hX
            rw [show ((⟨#[97]⟩ : Str) == Str.ofString "^") = false by decide, Bool.bne_false] at hX
            refine MakeEnd.go _ (by k_asm) (by k_asm) (by k_allIn) (by k_allIn) (off3 hne2) ⟨rfl, take_yes hnk hJ ?_⟩
            rw [hits_ab, hX, decide_eq_true (by assumption)]; rfl
          · rename_i hX
            rw [show ((⟨#[97]⟩ : Str) == Str.ofString "^") = false by decide, Bool.bne_false] at hX
            refine MakeEnd.go _ (by k_asm) (by k_asm) (by k_allIn) (by k_allIn) (off3 hne2) ⟨rfl, take_no hnk hJ ?_⟩
            rw [hits_ab, hX, Bool.and_false]
          · refine MakeEnd.go _ (by k_asm) (by k_asm) (by k_allIn) (by k_allIn) (off3 hne2) ⟨rfl, take_no hnk hJ ?_⟩
            rw [decide_eq_false (by omega)]; rfl
        · rintro outs news₁ h2 tk2 D2 nD ⟨rfl, hJ⟩ Fh Nh hne2 hlt
          rw [hvals.length, List.take_of_length_le (Nat.le_refl _)] at hJ
          subst hm2
          clear FG NG F6 N6
          subst hled
          k_lt hlt
          replace Fh : Fr g L' h2 _ := Fh
          replace Nh : News g L' h2 _ := Nh
          have hIh : I < h2.objs.size := Heap.lt_size (Nh (I, oI) (by k_mem)).1
          (all_goals try walk_at "m_fold")
          k_steps
          rename_i hE o2n FE NE d2n
          skip
          refine TurnEnd.goS [(l, W.listOf vs.toArray nl), (D2, _), (star, _), (L' + 1 + 1 + 1, _), (L' + 1 + 1, _), (L' + 1, _), (71, _)] FE NE (by k_allIn) (off7 (Nat.ne_of_lt hI.1) (Nat.ne_of_gt hlt.1) (Nat.ne_of_lt hI.2.2.1) (Nat.ne_of_lt hI.2.2.2.1) (Nat.ne_of_lt hI.2.2.2.2.1) (Nat.ne_of_lt hI.2.2.2.2.2.1) (Nat.ne_of_lt hI.2.2.2.2.2.2)) ⟨D2, outs, nD, o2n, _, _, mst, rfl, ?_, ?_, d2n, d3n, ?_, ?_⟩
          · rw [hnext]; exact hJ
          · rw [hnext]; exact fitIn_take hin _
          · exact hlt.2.2.2.1
          · exact Nat.ne_of_gt hlt.2.1
      · skip
        (all_goals try walk_at "m_fold")
        k_steps
        refine Stop.go (eval_comp (cl := [(Str.ofString "part", L' + 1 + 1 + 1), (Str.ofString "name", L' + 1)]) (by rfl) rfl (by decide) ?_)
        (all_goals try walk_at "m_fold")
        k_steps
        with_reducible rename Fr _ _ _ _ => FG
        with_reducible rename News _ _ _ _ => NG
        with_reducible rename (_ : Obj).data = Data.cell (some (Value.str _ _)) => d3n
        have hvl : vals.length ≤ 1000 := by
          have := hin.2
          rw [hvals.length]; omega
        refine led_hide NG fun led hled N6 => map_hide FG fun m2 hm2 F6 => ?_
        refine Stop.go ?_
        refine comp_list (vs := vals) (l := P') (m₀ := m2) (news₀ := led) (fun j outs news => news = led ∧ IntsAre outs (((ns.take j).filter fun k : Int => decide (k < (name.length : Int)) && hits name k (Str.ofString "[^a]")).map (· + 1)))
          (fun _ v m' => m' (Str.ofString "k") = some v) (fun _ _ _ _ => False) rfl (by rw [sizeLine_eq]; omega) (by decide) rfl (News.isList NG (by k_mem)) F6 N6 ⟨rfl, .nil⟩ ?_
          (fun _ _ _ _ _ _ _ _ _ _ _ hn k => asg_name rfl rfl hn k) (fun _ _ _ _ x => x.elim) ?_ ?_
        · refine ⟨W.listOf vals.toArray n, ?_⟩
          rintro j outs news h2 ⟨rfl, -⟩ - Nx
          rw [hled] at Nx
          exact News.get Nx (by k_mem)
        · rintro j v outs news₁ h2 tk2 I2 oI2 D2 C oC mC nD hj hvj ⟨rfl, hJ⟩ hnC hmC hne2 hI2 hDC hID Fh Nh
          refine wpAny_tests_one ?_
          refine hide ?_
          intro Gq hGq
          obtain ⟨k, uk, rfl, hnk⟩ := IntsAre.at hvals _ _ hvj
          refine hGq ?_
          clear hGq Gq
          have hk9 := hin.1 k (List.mem_of_getElem? hnk)
          clear hm2 FG NG F6 N6
          subst hled
          k_lt hI2
          k_lt2 hDC
          k_lt2 hID
          replace Fh : Fr g L' h2 _ := Fh
          replace Nh : News g L' h2 _ := Nh
          (all_goals try walk_at "m_fold")
          k_steps
          · rename_i hX
            rw [show ((⟨#[94]⟩ : Str) == Str.ofString "^") = true by decide, Bool.bne_true, Bool.not_not] at hX
            refine MakeEnd.go _ (by k_asm) (by k_asm) (by k_allIn) (by k_allIn) (off3 hne2) ⟨rfl, take_yes hnk hJ ?_⟩
            rw [hits_na, hX, decide_eq_true (by assumption)]; rfl
          · rename_i hX
            rw [show ((⟨#[94]⟩ : Str) == Str.ofString "^") = true by decide, Bool.bne_true, Bool.not_not] at hX
            refine MakeEnd.go _ (by k_asm) (by k_asm) (by k_allIn) (by k_allIn) (off3 hne2) ⟨rfl, take_no hnk hJ ?_⟩
            rw [hits_na, hX, Bool.and_false]
          · refine MakeEnd.go _ (by k_asm) (by k_asm) (by k_allIn) (by k_allIn) (off3 hne2) ⟨rfl, take_no hnk hJ ?_⟩
            rw [decide_eq_false (by omega)]; rfl
        · rintro outs news₁ h2 tk2 D2 nD ⟨rfl, hJ⟩ Fh Nh hne2 hlt
          rw [hvals.length, List.take_of_length_le (Nat.le_refl _)] at hJ
          subst hm2
          clear FG NG F6 N6
          subst hled
          k_lt hlt
          replace Fh : Fr g L' h2 _ := Fh
          replace Nh : News g L' h2 _ := Nh
          have hIh : I < h2.objs.size := Heap.lt_size (Nh (I, oI) (by k_mem)).1
          (all_goals try walk_at "m_fold")
          k_steps
          rename_i hE o2n FE NE d2n
          skip
          refine TurnEnd.goS [(l, W.listOf vs.toArray nl), (D2, _), (star, _), (L' + 1 + 1 + 1, _), (L' + 1 + 1, _), (L' + 1, _), (71, _)] FE NE (by k_allIn) (off7 (Nat.ne_of_lt hI.1) (Nat.ne_of_gt hlt.1) (Nat.ne_of_lt hI.2.2.1) (Nat.ne_of_lt hI.2.2.2.1) (Nat.ne_of_lt hI.2.2.2.2.1) (Nat.ne_of_lt hI.2.2.2.2.2.1) (Nat.ne_of_lt hI.2.2.2.2.2.2)) ⟨D2, outs, nD, o2n, _, _, mst, rfl, ?_, ?_, d2n, d3n, ?_, ?_⟩
          · rw [hnext]; exact hJ
          · rw [hnext]; exact fitIn_take hin _
          · exact hlt.2.2.2.1
          · exact Nat.ne_of_gt hlt.2.1
  · rintro m₁ news₁ h tk hq0 Fi Ni
    ((try dsimp only); (try walk_at "m_fold"))
    refine hide ?_
    intro Gq hGq
    obtain ⟨P', vals, n, o2, o3, c, mst, rfl, hvals, hin, d2, d3, lP', hPl⟩ := hq0
    refine hGq ?_
    clear hGq Gq
    rw [hvs.length, List.take_of_length_le (Nat.le_refl _)] at hvals hin
    replace Fi : Fr g L' h _ := Fi
    replace Ni : News g L' h _ := Ni
    (all_goals try walk_at "m_fold")
    k_steps
    with_reducible rename Fr _ _ _ _ => FE
    with_reducible rename News _ _ _ _ => NE
    exact hret _ _ _ ps9 htb9 (NE (71, tabObj ps9) (by k_mem)).1 (keptBut_of hg FE) rfl

theorem fillit_MTell : PySem.Challenge.rw_in0069_01 = PySem.Challenge.rw_in0069_01 ∧ hd.heap_39 = hd.heap_39 := by
  w_top off
  k_fill
  exact ⟨rfl, rfl⟩
/-- what is told of an order: a path or a yes or no -/
inductive Tell | path (x : Str) | yes (b : Bool)
def TellIs (_ : Heap) (v : Value) : Tell → Prop
  | .path x => ∃ t, v = .str x t
  | .yes b => v = .bool b
def partOk (p : Str) : Prop := p = Str.ofString "" ∨ p = Str.ofString "." ∨ p = Str.ofString ".." ∨ p = Str.ofString "a" ∨ p = Str.ofString "b" ∨ p = Str.ofString "ab"
def compOk (p : Str) : Prop := p = Str.ofString "a" ∨ p = Str.ofString "b" ∨ p = Str.ofString "ab"
def ordOk (o : Int × List Str) : Prop := (o.1 = 0 ∧ o.2 ≠ [] ∧ o.2.length ≤ 7 ∧ ∀ p ∈ o.2, partOk p) ∨ (o.1 = 1 ∧ o.2 ≠ [] ∧ o.2.length ≤ 3 ∧ ∀ p ∈ o.2, pieceOk p)
noncomputable def stepPart (here : List Str) (part : Str) : List Str := if part = Str.ofString ".." then here.dropLast else if part = Str.ofString "" ∨ part = Str.ofString "." then here else here ++ [part]
noncomputable def startOf (here row : List Str) : List Str := if row.getD 0 Str.empty = Str.ofString "" then [] else here
noncomputable def fitsB (row : List Str) (name : Str) : Bool := (row.reverse.foldl (fitStep name) [(name.length : Int)]).any (· == 0)
noncomputable def lastOf (here : List Str) : Str := if here.isEmpty then Str.ofString "" else here.getD (here.length - 1) Str.empty
noncomputable def pathOf (here : List Str) : Str := Str.ofString "/" ++ Str.join (Str.ofString "/") here
noncomputable def walkStep (st : List Str × List Tell) (o : Int × List Str) : List Str × List Tell :=
  if o.1 = 0 then (o.2.foldl stepPart (startOf st.1 o.2), st.2 ++ [.path (pathOf (o.2.foldl stepPart (startOf st.1 o.2)))])
  else (st.1, st.2 ++ [.yes (fitsB o.2 (lastOf st.1))])
def hereOk (here : List Str) : Prop := ∀ c ∈ here, compOk c
theorem hereOk_step {here : List Str} (h : hereOk here) {part : Str} (hp : partOk part) : hereOk (stepPart here part) := by
  unfold stepPart
  split
  · intro c hc; exact h c (List.dropLast_subset _ hc)
  · split
    · exact h
    · rename_i h1 h2
      intro c hc
      rcases List.mem_append.mp hc with hc | hc
      · exact h c hc
      · rw [List.mem_singleton.mp hc]
        rcases hp with rfl | rfl | rfl | hp | hp | hp
        · exact absurd (Or.inl rfl) h2
        · exact absurd (Or.inr rfl) h2
        · exact absurd rfl h1
        · exact .inl hp
        · exact .inr (.inl hp)
        · exact .inr (.inr hp)
theorem stepPart_len (here : List Str) (part : Str) : (stepPart here part).length ≤ here.length + 1 := by
  unfold stepPart
  split
  · rw [List.length_dropLast]; omega
  · split
    · omega
    · simp
theorem comp_len {c : Str} (h : compOk c) : 1 ≤ c.length ∧ c.length ≤ 2 := by rcases h with rfl | rfl | rfl <;> decide
theorem part_len {c : Str} (h : partOk c) : c.length ≤ 2 := by rcases h with rfl | rfl | rfl | rfl | rfl | rfl <;> decide
open PyProof.V PySem.Spec PySem.SeqAt in
theorem my_neS {prog : Program} {w : World} {A : Around} {E : Value → Shared → Prop} {s : Shared} {a b : Addr} {vs : List Value} {ss : List Str} {Q : Value → Shared → Prop} (hl : s.heap.IsList a vs.toArray) (hi : StrsAre vs ss) (hl' : s.heap.IsList b #[]) (hu : A.units + 64 < cLine)
    (hd : shaped (.list (ss.map PyData.str)) = true)
    (h : Q (.bool (!ss.isEmpty)) s) : wpAny (model prog w) A (compareOp .NotEq (.ref a) (.ref b)) Q E s := by
  obtain ⟨o, ho, hc, n, hd'⟩ := hl
  obtain ⟨o', ho', hc', n', hd''⟩ := hl'
  refine ne_dataH_same (Reads.list ho hc hd' (by simpa using strs_readAll s.heap hi)) (Reads.list (xs := []) ho' hc' hd'' .nil) hd (by decide) hu ?_ ?_
  · cases ss <;> simp [noMix, noMixAll]
  · have e : PySem.Spec.same (.list (ss.map PyData.str)) (.list []) = ss.isEmpty := by cases ss <;> simp [PySem.Spec.same, PySem.Spec.sameAll]
    rw [e]; exact h
theorem init_pick (vs : List Value) : (slicePick vs.toArray none (some (-1)) none).toList = vs.dropLast := by
  rw [kms_pick_eq]
  unfold kms_pick kms_lo kms_hi
  simp [List.dropLast_eq_take]


example : True := by
  k_with_none
  k_with "my m_enter" => ((refine' enter0 ?k1 ?k2 ?k3 ?k5 ?kA ?kF ?kK ?k6 ?k7 ?k8 ?k9 ?kB ?_ ?c2 ?c3 ?c4 ?c5; (case kA => exact rfl); (case kF => exact rfl); (case kK => assumption); (case k1 => k_asm); (case k2 => k_asm); (case k3 => k_asm); (case k5 => k_asm); (case k6 => k_is); (case k7 => k_is); (case k8 => ktr_room); (case k9 => exact BindsTo.of_eq rfl); (case c5 => decide); (case kB => exact locs rfl); (case c2 => exact rfl); (case c3 => exact rfl); (case c4 => exact rfl); k_whole))
  k_with "my call builtin:issubclass" => ((k_here; (with_reducible show wpAny _ _ (call _ [Value.type _, Value.ref _]) _ _ _); k_dflt (refine' call_iss ?k1 ?_; (case k1 => exact News.get (by k_asm) (by k_mem)))))
  k_with "my m_start" => ((refine wpAny_call ?_; k_dflt (walk_at "m_enter")))
  k_with "my m_use" => (((case kB => k_asm); (case kF => k_asm); (case kX => k_asm); (case kN => k_asm); (case kT => k_asm); (case kK => first | exact rfl | assumption); (case kD => ktr_room); (case kU => ktr_units)))
  k_with "my exec For Name Name cons nil" => ((k_here; refine Stop.out ?_))
  k_with "my exec For Tuple Name cons nil" => ((k_here; refine Stop.out ?_))
  k_with "my eval ListComp Call cons" => ((k_here; refine Stop.out ?_))
  k_with "my eval ListComp Name cons" => ((k_here; refine Stop.out ?_))
  k_with "my eval ListComp BinOp cons" => ((k_here; refine Stop.out ?_))
  k_with "my eval ListComp Tuple cons" => ((k_here; refine Stop.out ?_))
  k_with "my m_loc" => (first
  | exact rfl
  | with_reducible assumption
  | (refine Eq.trans (if_neg (by decide)) ?_; walk_at "m_loc")
  | ((with_reducible rename (∀ y : PySem.Str, y ≠ _ → _ = _) => hm9); refine Eq.trans (hm9 _ (by decide)) ?_; walk_at "m_loc"))
  k_with "my truthy ref" => ((k_here; (with_reducible show wpAny _ _ (truthy (Value.ref _)) _ _ _); k_dflt (refine' kgr_truthy ?N ?hm ?hc ?hd ?hf ?_; (case N => k_asm); (case hm => k_mem); (case hc => exact rfl); (case hd => exact rfl); (case hf => ((try simp only [strValues_length, List.length_append, List.length_cons, List.length_nil]); omega)); k_whole; (simp only [snoc_isEmpty, List.isEmpty_nil, Bool.not_true, Bool.not_false]))))
  k_with "my call builtin:list.append" => ((k_here; (with_reducible show wpAny _ _ (call (Value.builtin _) [Value.ref _, _]) _ _ _); k_dflt (refine' my_append ?F ?N ?U ?z ?_; (case F => k_asm); (case N => k_asm); (case U => k_upd); (case z => (rw [PySem.sizeLine_eq]; (try simp only [strValues_length, List.length_append, List.length_cons, List.length_nil]); omega)); k_whole; intro _ _ _; (try k_sweep))))
  k_with "my call builtin:list.pop" => ((k_here; (with_reducible show wpAny _ _ (call (Value.builtin _) [Value.ref _]) _ _ _); k_dflt (refine' my_pop ?F ?N ?U ?z ?_; (case F => k_asm); (case N => k_asm); (case U => k_upd); (case z => (rw [PySem.sizeLine_eq]; (try simp only [strValues_length, List.length_append, List.length_cons, List.length_nil]); omega)); k_whole; intro _ _ _; (try k_sweep))))
  k_with "my subscriptTail Name UnaryOp ref int" => ((k_here; (with_reducible show wpAny _ _ (subscriptTail _ _ (Value.ref _) (Value.int _ _)) _ _ _); k_dflt (refine' my_last ?N ?hm ?_; (case N => k_asm); (case hm => k_mem); k_whole)))
  k_with "my call builtin:str.join" => ((k_here; (with_reducible show wpAny _ _ (call (Value.builtin _) [Value.str _ _, Value.ref _]) _ _ _); k_dflt (refine' join_list (News.isList ?N ?hm) ?S ?ok ?_; (case N => k_asm); (case hm => k_mem); (case S => with_reducible assumption); (case ok => ((simp only [show (Str.ofString "/").length = 1 from rfl, show (Str.ofString "").length = 0 from rfl]); omega)); k_whole; intro _ _)))
  k_with "my binaryOp Add str str" => ((k_here; (with_reducible show wpAny _ _ (binaryOp Operator.Add (Value.str _ _) (Value.str _ _)) _ _ _); k_dflt (refine' SBL.add (hsz := ?z) ?_; (case z => (rw [PySem.sizeLine_eq]; (try simp only [show (Str.ofString "/").length = 1 from rfl]); omega)); k_whole; intro _ _)))
  k_with "my truthy str" => ((k_here; (with_reducible show wpAny _ _ (PySem.truthy (Value.str _ _)) _ _ _); k_dflt (refine' KXt.truthy_pos (K := 16777216) ?za ?zb (Nat.le_refl _) ?_; (case za => omega); (case zb => omega); k_whole; intro _)))
  k_with "my eval Name" => (((k_here; (with_reducible rename NsObj _ _ => nX9); k_dflt (refine' ldVarK (NsObj.ns nX9 (News.get ?N ?hm)) ?hv ?_; (case N => k_asm); (case hm => k_mem); (case hv => with_reducible assumption); k_whole)); (try walk_at "m_hX")))
  k_with "my call builtin:str.join" => ((k_here; (with_reducible show wpAny _ _ (call (Value.builtin _) [Value.str _ _, Value.ref _]) _ _ _); k_dflt (refine' join_list ?hl ?S ?ok ?_; (case hl => exact Heap.IsList.at (by with_reducible assumption) (Fr.keep (by k_asm) _)); (case S => with_reducible assumption); (case ok => ((simp only [show (Str.ofString "/").length = 1 from rfl, show (Str.ofString "").length = 0 from rfl]); omega)); k_whole; intro _ _)))
  k_with "my eval Name" => (((k_here; (with_reducible rename Fr _ _ _ _ => kF); (with_reducible rename NsObj _ _ => nX9); k_dflt (refine' nameG_B kF ?k1 ?k2 ?k3 ?k4 ?k5 ?_ ?k6 ?k7 ?k8 ?k9 ?k10; (case k1 => k_asm); (case k2 => k_asm); (case k3 => k_is); (case k4 => boot_by_name); (case k5 => decide); (case k6 => exact rfl); (case k7 => exact rfl); (case k8 => exact rfl); (case k9 => exact rfl); (case k10 => decide); k_whole)); (try walk_at "m_hF"); (try walk_at "m_hX")))
  k_with "my binaryOp Add ref ref" => ((k_here; (with_reducible show wpAny _ _ (binaryOp Operator.Add (Value.ref _) (Value.ref _)) _ _ _); k_dflt (refine' add_lists ?F ?N (News.isList ?N1 ?m1) (News.isList ?N2 ?m2) ?_ ?z; (case F => k_asm); (case N => k_asm); (case N1 => k_asm); (case m1 => k_mem); (case N2 => k_asm); (case m2 => k_mem); (case z => (rw [PySem.sizeLine_eq]; (try simp only [List.length_append, List.length_cons, List.length_nil]); omega)); k_whole; intro _ _ _; (try k_sweep))))
  k_with "my call builtin:len" => ((k_here; (with_reducible show wpAny _ _ (call _ [Value.ref _]) _ _ _); k_dflt (refine' len_list ?hl ?hf ?_; (case hl => exact Heap.IsList.at (by with_reducible assumption) (Fr.keep (by k_asm) _)); (case hf => ((simp only [List.size_toArray]); omega)); k_whole; (try simp only [List.size_toArray]))))
  k_with "my call type:bytes" => ((k_here; (with_reducible show wpAny _ _ (call (Value.type _) [Value.ref _]) _ _ _); k_dflt (refine' bytes_K ?F ?N (News.isList ?N1 ?m1) ?i ?r ?z ?h ?_; (case F => k_asm); (case N => k_asm); (case N1 => k_asm); (case m1 => k_mem); (case i => with_reducible assumption); (case r => with_reducible assumption); (case z => (rw [PySem.sizeLine_eq]; omega)); (case h => exact rfl); k_whole; intro _ _ _ _ _ _; (try k_sweep))))
  k_with "my eval Name" => (((k_here; (with_reducible rename Fr _ _ _ _ => kF); k_dflt (refine' nameX_L kF ?k2 ?_ ?a ?b; (case b => exact rfl); (case a => exact rfl); (case k2 => walk_at "m_loc"); k_whole); (try dsimp only)); (try walk_at "m_hF")))
  k_with "my eval Name" => (((k_here; (with_reducible rename News _ _ _ _ => kN); k_dflt (refine' nameX_C kN ?hc ?hm ?hd ?_ ?a ?b; (case b => exact rfl); (case a => exact rfl); (case hc => exact rfl); (case hm => k_mem); (case hd => with_reducible assumption); k_whole)); (try walk_at "m_hN")))
  k_with "my eval Name" => (k_here; dsimp only)
  k_with "my eval Constant int" => (k_here; dsimp only)
  k_with "my eval Constant str" => (k_here; dsimp only)
  k_with "my m_fold" => (((first | (with_reducible show wpAny _ _ (PySem.execs _ _) _ _ _) | (with_reducible show wpAny _ _ (PySem.exec _ _) _ _ _)); (first | ((fail_if_success (have := qk0)); k_fold; (rename PySem.Flow → PySem.Shared → Prop => qk0); (rename PySem.Value → PySem.Shared → Prop => ek0)) | ((fail_if_success (have := qk1)); k_fold; (rename PySem.Flow → PySem.Shared → Prop => qk1); (rename PySem.Value → PySem.Shared → Prop => ek1)) | ((fail_if_success (have := qk2)); k_fold; (rename PySem.Flow → PySem.Shared → Prop => qk2); (rename PySem.Value → PySem.Shared → Prop => ek2)) | ((fail_if_success (have := qk3)); k_fold; (rename PySem.Flow → PySem.Shared → Prop => qk3); (rename PySem.Value → PySem.Shared → Prop => ek3)) | ((fail_if_success (have := qk4)); k_fold; (rename PySem.Flow → PySem.Shared → Prop => qk4); (rename PySem.Value → PySem.Shared → Prop => ek4)) | ((fail_if_success (have := qk5)); k_fold; (rename PySem.Flow → PySem.Shared → Prop => qk5); (rename PySem.Value → PySem.Shared → Prop => ek5)) | ((fail_if_success (have := qk6)); k_fold; (rename PySem.Flow → PySem.Shared → Prop => qk6); (rename PySem.Value → PySem.Shared → Prop => ek6)) | ((fail_if_success (have := qk7)); k_fold; (rename PySem.Flow → PySem.Shared → Prop => qk7); (rename PySem.Value → PySem.Shared → Prop => ek7)) | ((fail_if_success (have := qk8)); k_fold; (rename PySem.Flow → PySem.Shared → Prop => qk8); (rename PySem.Value → PySem.Shared → Prop => ek8)) | ((fail_if_success (have := qk9)); k_fold; (rename PySem.Flow → PySem.Shared → Prop => qk9); (rename PySem.Value → PySem.Shared → Prop => ek9)) | ((fail_if_success (have := qk10)); k_fold; (rename PySem.Flow → PySem.Shared → Prop => qk10); (rename PySem.Value → PySem.Shared → Prop => ek10)) | ((fail_if_success (have := qk11)); k_fold; (rename PySem.Flow → PySem.Shared → Prop => qk11); (rename PySem.Value → PySem.Shared → Prop => ek11)) | ((fail_if_success (have := qk12)); k_fold; (rename PySem.Flow → PySem.Shared → Prop => qk12); (rename PySem.Value → PySem.Shared → Prop => ek12)) | ((fail_if_success (have := qk13)); k_fold; (rename PySem.Flow → PySem.Shared → Prop => qk13); (rename PySem.Value → PySem.Shared → Prop => ek13)) | ((fail_if_success (have := qk14)); k_fold; (rename PySem.Flow → PySem.Shared → Prop => qk14); (rename PySem.Value → PySem.Shared → Prop => ek14)) | ((fail_if_success (have := qk15)); k_fold; (rename PySem.Flow → PySem.Shared → Prop => qk15); (rename PySem.Value → PySem.Shared → Prop => ek15)))))
  k_with "my m_tidy" => (((try clear qk15); (try clear ek15)); ((try clear qk14); (try clear ek14)); ((try clear qk13); (try clear ek13)); ((try clear qk12); (try clear ek12)); ((try clear qk11); (try clear ek11)); ((try clear qk10); (try clear ek10)); ((try clear qk9); (try clear ek9)); ((try clear qk8); (try clear ek8)); ((try clear qk7); (try clear ek7)); ((try clear qk6); (try clear ek6)); ((try clear qk5); (try clear ek5)); ((try clear qk4); (try clear ek4)); ((try clear qk3); (try clear ek3)); ((try clear qk2); (try clear ek2)); ((try clear qk1); (try clear ek1)); ((try clear qk0); (try clear ek0)))
  k_with "my execs cons" => (first | (k_here; k_gentoks) | (k_here; walk_at "m_fold") | (k_here; walk_at "m_tidy"; (with_reducible refine wpAny_execs_cons ?_); (try dsimp only); (try walk_at "m_fold")))
  trivial


noncomputable def pieces6 : List Str := [Str.ofString "*", Str.ofString "?", Str.ofString "a", Str.ofString "b", Str.ofString "[ab]", Str.ofString "[!a]"]
noncomputable def names4 : List Str := [Str.ofString "", Str.ofString "a", Str.ofString "b", Str.ofString "ab"]
noncomputable def same1 (row : List Str) : Bool := names4.all fun name => takesB row name == fitsB row name
theorem same_0 : same1 [] = true := by decide +kernel
theorem same_1 : (pieces6.all fun p => same1 [p]) = true := by decide +kernel
theorem same_2 : (pieces6.all fun p => pieces6.all fun q => same1 [p, q]) = true := by decide +kernel
theorem same_3 : (pieces6.all fun p => pieces6.all fun q => pieces6.all fun r => same1 [p, q, r]) = true := by decide +kernel

theorem fillit_MStr : PySem.Challenge.rw_in0069_01 = PySem.Challenge.rw_in0069_01 ∧ hd.heap_39 = hd.heap_39 := by
  w_top off
  k_fill
  exact ⟨rfl, rfl⟩

example : True := by
  k_with_none
  k_with "my m_enter" => ((refine' enter0 ?k1 ?k2 ?k3 ?k5 ?kA ?kF ?kK ?k6 ?k7 ?k8 ?k9 ?kB ?_ ?c2 ?c3 ?c4 ?c5; (case kA => exact rfl); (case kF => exact rfl); (case kK => assumption); (case k1 => k_asm); (case k2 => k_asm); (case k3 => k_asm); (case k5 => k_asm); (case k6 => k_is); (case k7 => k_is); (case k8 => ktr_room); (case k9 => exact BindsTo.of_eq rfl); (case c5 => decide); (case kB => exact locs rfl); (case c2 => exact rfl); (case c3 => exact rfl); (case c4 => exact rfl); k_whole))
  k_with "my call builtin:issubclass" => ((k_here; (with_reducible show wpAny _ _ (call _ [Value.type _, Value.ref _]) _ _ _); k_dflt (refine' call_iss ?k1 ?_; (case k1 => exact News.get (by k_asm) (by k_mem)))))
  k_with "my m_start" => ((refine wpAny_call ?_; k_dflt (walk_at "m_enter")))
  trivial


set_option maxHeartbeats 8000000 in
theorem fspath_spec (w : World) (x : Str) (t : Tok) : Spec0 w 149 2 16 (fun _ => True) [.str x t] (fun _ v => v = .str x t) := by
  intro p loose mean mg mb dp un gd cn cs a ccd cl outer A₀ base h₀ L m s Q E B F X T hk hd hu hpre hret
  walk_at "m_start"
  intro g L' h₁ hg F' N' B' X' T'
  (try dsimp only)
  clear B F X T
  k_steps
  exact hret _ _ _ (fun b o e => Fr.keep (by assumption) b o (hg ▸ e)) rfl

set_option maxHeartbeats 8000000 in
theorem getsep_spec (w : World) (x : Str) (t : Tok) : Spec0 w 163 2 16 (fun _ => True) [.str x t] (fun _ v => ∃ t, v = .str (Str.ofString "/") t) := by
  intro p loose mean mg mb dp un gd cn cs a ccd cl outer A₀ base h₀ L m s Q E B F X T hk hd hu hpre hret
  walk_at "m_start"
  intro g L' h₁ hg F' N' B' X' T'
  (try dsimp only)
  clear B F X T
  k_steps
  exact hret _ _ _ (fun b o e => Fr.keep (by assumption) b o (hg ▸ e)) ⟨_, rfl⟩

example : True := by
  k_with "my call ref" => ((k_here; (with_reducible show wpAny _ _ (call (Value.ref 149) [Value.str _ _]) _ _ _); k_dflt (refine' use0 (fspath_spec _ _ _) ?kB ?kF ?kX ?kN ?kT ?kK ?kD ?kU trivial ?_; (case kB => k_asm); (case kF => k_asm); (case kX => k_asm); (case kN => k_asm); (case kT => k_asm); (case kK => first | exact rfl | assumption); (case kD => ktr_room); (case kU => ktr_units); k_whole; intro _ _ _ _ hp' _ _; subst hp'; (try k_sweep))))
  k_with "my call ref" => ((k_here; (with_reducible show wpAny _ _ (call (Value.ref 163) [Value.str _ _]) _ _ _); k_dflt (refine' use0 (getsep_spec _ _ _) ?kB ?kF ?kX ?kN ?kT ?kK ?kD ?kU trivial ?_; (case kB => k_asm); (case kF => k_asm); (case kX => k_asm); (case kN => k_asm); (case kT => k_asm); (case kK => first | exact rfl | assumption); (case kD => ktr_room); (case kU => ktr_units); k_whole; intro _ _ _ _ hp' _ _; obtain ⟨_, hp'⟩ := hp'; subst hp'; (try k_sweep))))
  k_with "my eval Name" => (k_here; dsimp only)
  k_with "my eval Constant int" => (k_here; dsimp only)
  k_with "my eval Constant str" => (k_here; dsimp only)
  k_with "my m_fold" => (((first | (with_reducible show wpAny _ _ (PySem.execs _ _) _ _ _) | (with_reducible show wpAny _ _ (PySem.exec _ _) _ _ _)); (first | ((fail_if_success (have := qk0)); k_fold; (rename PySem.Flow → PySem.Shared → Prop => qk0); (rename PySem.Value → PySem.Shared → Prop => ek0)) | ((fail_if_success (have := qk1)); k_fold; (rename PySem.Flow → PySem.Shared → Prop => qk1); (rename PySem.Value → PySem.Shared → Prop => ek1)) | ((fail_if_success (have := qk2)); k_fold; (rename PySem.Flow → PySem.Shared → Prop => qk2); (rename PySem.Value → PySem.Shared → Prop => ek2)) | ((fail_if_success (have := qk3)); k_fold; (rename PySem.Flow → PySem.Shared → Prop => qk3); (rename PySem.Value → PySem.Shared → Prop => ek3)) | ((fail_if_success (have := qk4)); k_fold; (rename PySem.Flow → PySem.Shared → Prop => qk4); (rename PySem.Value → PySem.Shared → Prop => ek4)) | ((fail_if_success (have := qk5)); k_fold; (rename PySem.Flow → PySem.Shared → Prop => qk5); (rename PySem.Value → PySem.Shared → Prop => ek5)) | ((fail_if_success (have := qk6)); k_fold; (rename PySem.Flow → PySem.Shared → Prop => qk6); (rename PySem.Value → PySem.Shared → Prop => ek6)) | ((fail_if_success (have := qk7)); k_fold; (rename PySem.Flow → PySem.Shared → Prop => qk7); (rename PySem.Value → PySem.Shared → Prop => ek7)) | ((fail_if_success (have := qk8)); k_fold; (rename PySem.Flow → PySem.Shared → Prop => qk8); (rename PySem.Value → PySem.Shared → Prop => ek8)) | ((fail_if_success (have := qk9)); k_fold; (rename PySem.Flow → PySem.Shared → Prop => qk9); (rename PySem.Value → PySem.Shared → Prop => ek9)) | ((fail_if_success (have := qk10)); k_fold; (rename PySem.Flow → PySem.Shared → Prop => qk10); (rename PySem.Value → PySem.Shared → Prop => ek10)) | ((fail_if_success (have := qk11)); k_fold; (rename PySem.Flow → PySem.Shared → Prop => qk11); (rename PySem.Value → PySem.Shared → Prop => ek11)) | ((fail_if_success (have := qk12)); k_fold; (rename PySem.Flow → PySem.Shared → Prop => qk12); (rename PySem.Value → PySem.Shared → Prop => ek12)) | ((fail_if_success (have := qk13)); k_fold; (rename PySem.Flow → PySem.Shared → Prop => qk13); (rename PySem.Value → PySem.Shared → Prop => ek13)) | ((fail_if_success (have := qk14)); k_fold; (rename PySem.Flow → PySem.Shared → Prop => qk14); (rename PySem.Value → PySem.Shared → Prop => ek14)) | ((fail_if_success (have := qk15)); k_fold; (rename PySem.Flow → PySem.Shared → Prop => qk15); (rename PySem.Value → PySem.Shared → Prop => ek15)))))
  k_with "my m_tidy" => (((try clear qk15); (try clear ek15)); ((try clear qk14); (try clear ek14)); ((try clear qk13); (try clear ek13)); ((try clear qk12); (try clear ek12)); ((try clear qk11); (try clear ek11)); ((try clear qk10); (try clear ek10)); ((try clear qk9); (try clear ek9)); ((try clear qk8); (try clear ek8)); ((try clear qk7); (try clear ek7)); ((try clear qk6); (try clear ek6)); ((try clear qk5); (try clear ek5)); ((try clear qk4); (try clear ek4)); ((try clear qk3); (try clear ek3)); ((try clear qk2); (try clear ek2)); ((try clear qk1); (try clear ek1)); ((try clear qk0); (try clear ek0)))
  k_with "my execs cons" => (first | (k_here; k_gentoks) | (k_here; walk_at "m_fold") | (k_here; walk_at "m_tidy"; (with_reducible refine wpAny_execs_cons ?_); (try dsimp only); (try walk_at "m_fold")))
  trivial



set_option maxHeartbeats 8000000 in
theorem basename_spec (w : World) (x : Str) (t : Tok) (hx : x.length ≤ 1048576) : Spec0 w 184 6 40 (fun _ => True) [.str x t] (fun _ v => ∃ t, v = .str (Txt.slice x (some (Txt.rfind x (Str.ofString "/") + 1)) none) t) := by
  intro p loose mean mg mb dp un gd cn cs a ccd cl outer A₀ base h₀ L m s Q E B F X T hk hd hu hpre hret
  walk_at "m_start"
  intro g L' h₁ hg F' N' B' X' T'
  (try dsimp only)
  clear B F X T
  (all_goals try walk_at "m_fold")
  k_steps
  exact hret _ _ _ (fun b o e => Fr.keep (by assumption) b o (hg ▸ e)) ⟨_, rfl⟩

set_option maxHeartbeats 8000000 in
theorem splitroot_spec (w : World) (x : Str) (t : Tok) (hx : x.length ≤ 1048576) (h1 : Txt.slice x none (some 1) = Str.ofString "/") (h2 : Txt.slice x (some 1) (some 2) ≠ Str.ofString "/") : Spec0 w 177 6 40 (fun _ => True) [.str x t] (fun h v => ∃ a t1 t2 t3, v = .ref a ∧ IsTup h a #[.str (Str.ofString "") t1, .str (Str.ofString "/") t2, .str (Txt.slice x (some 1) none) t3]) := by
  intro p loose mean mg mb dp un gd cn cs a ccd cl outer A₀ base h₀ L m s Q E B F X T hk hd hu hpre hret
  walk_at "m_start"
  intro g L' h₁ hg F' N' B' X' T'
  (try dsimp only)
  clear B F X T
  (all_goals try walk_at "m_fold")
  k_steps
  all_goals first
    | (exfalso; simp_all; done)
    | exact hret _ _ _ (fun b o e => Fr.keep (by assumption) b o (hg ▸ e)) ⟨_, _, _, _, rfl, News.isTup (by assumption) (by k_mem)⟩

theorem fillit_MJoin : PySem.Challenge.rw_in0069_01 = PySem.Challenge.rw_in0069_01 ∧ hd.heap_39 = hd.heap_39 := by
  w_top off
  k_fill
  exact ⟨rfl, rfl⟩

example : True := by
  k_with_none
  k_with "my m_enter" => ((refine' enter0 ?k1 ?k2 ?k3 ?k5 ?kA ?kF ?kK ?k6 ?k7 ?k8 ?k9 ?kB ?_ ?c2 ?c3 ?c4 ?c5; (case kA => exact rfl); (case kF => exact rfl); (case kK => assumption); (case k1 => k_asm); (case k2 => k_asm); (case k3 => k_asm); (case k5 => k_asm); (case k6 => k_is); (case k7 => k_is); (case k8 => ktr_room); (case k9 => exact BindsTo.of_eq rfl); (case c5 => decide); (case kB => exact locs rfl); (case c2 => exact rfl); (case c3 => exact rfl); (case c4 => exact rfl); k_whole))
  k_with "my call builtin:issubclass" => ((k_here; (with_reducible show wpAny _ _ (call _ [Value.type _, Value.ref _]) _ _ _); k_dflt (refine' call_iss ?k1 ?_; (case k1 => exact News.get (by k_asm) (by k_mem)))))
  k_with "my m_start" => ((refine wpAny_call ?_; k_dflt (walk_at "m_enter")))
  k_with "my m_use" => (((case kB => k_asm); (case kF => k_asm); (case kX => k_asm); (case kN => k_asm); (case kT => k_asm); (case kK => first | exact rfl | assumption); (case kD => ktr_room); (case kU => ktr_units)))
  k_with "my call ref" => ((k_here; (with_reducible show wpAny _ _ (call (Value.ref 149) [Value.str _ _]) _ _ _); k_dflt (refine' use0 (fspath_spec _ _ _) ?kB ?kF ?kX ?kN ?kT ?kK ?kD ?kU trivial ?_; walk_at "m_use"; k_whole; intro _ _ _ _ hp' _ _; subst hp'; (try k_sweep))))
  k_with "my call ref" => ((k_here; (with_reducible show wpAny _ _ (call (Value.ref 163) [Value.str _ _]) _ _ _); k_dflt (refine' use0 (getsep_spec _ _ _) ?kB ?kF ?kX ?kN ?kT ?kK ?kD ?kU trivial ?_; walk_at "m_use"; k_whole; intro _ _ _ _ hp' _ _; obtain ⟨_, hp'⟩ := hp'; subst hp'; (try k_sweep))))
  k_with "my call ref" => ((k_here; (with_reducible show wpAny _ _ (call (Value.ref 177) [Value.str _ _]) _ _ _); k_dflt (refine' use0 (splitroot_spec _ _ _ (by assumption) (by assumption) (by assumption)) ?kB ?kF ?kX ?kN ?kT ?kK ?kD ?kU trivial ?_; walk_at "m_use"; k_whole; intro _ _ _ _ hp' _ _; obtain ⟨_, _, _, _, hp', _⟩ := hp'; subst hp'; (try k_sweep))))
  k_with "my m_loc" => (first
  | exact rfl
  | with_reducible assumption
  | (refine Eq.trans (if_neg (by decide)) ?_; walk_at "m_loc")
  | ((with_reducible rename (∀ y : PySem.Str, y ≠ _ → _ = _) => hm9); refine Eq.trans (hm9 _ (by decide)) ?_; walk_at "m_loc"))
  k_with "my eval Name" => (((k_here; (with_reducible rename Fr _ _ _ _ => kF); k_dflt (refine' ld kF ?k2 ?_; (case k2 => walk_at "m_loc"); k_whole); (try dsimp only)); (try walk_at "m_hF")))
  k_with "my truthy ref" => ((k_here; (with_reducible show wpAny _ _ (truthy (Value.ref _)) _ _ _); k_dflt (refine' kgr_truthy ?N ?hm ?hc ?hd ?hf ?_; (case N => k_asm); (case hm => k_mem); (case hc => exact rfl); (case hd => exact rfl); (case hf => ((try simp only [strValues_length, List.length_append, List.length_cons, List.length_nil]); omega)); k_whole; (simp only [snoc_isEmpty, List.isEmpty_nil, Bool.not_true, Bool.not_false]))))
  k_with "my call builtin:list.append" => ((k_here; (with_reducible show wpAny _ _ (call (Value.builtin _) [Value.ref _, _]) _ _ _); k_dflt (refine' my_append ?F ?N ?U ?z ?_; (case F => k_asm); (case N => k_asm); (case U => k_upd); (case z => (rw [PySem.sizeLine_eq]; (try simp only [strValues_length, List.length_append, List.length_cons, List.length_nil]); omega)); k_whole; intro _ _ _; (try k_sweep))))
  k_with "my call builtin:list.pop" => ((k_here; (with_reducible show wpAny _ _ (call (Value.builtin _) [Value.ref _]) _ _ _); k_dflt (refine' my_pop ?F ?N ?U ?z ?_; (case F => k_asm); (case N => k_asm); (case U => k_upd); (case z => (rw [PySem.sizeLine_eq]; (try simp only [strValues_length, List.length_append, List.length_cons, List.length_nil]); omega)); k_whole; intro _ _ _; (try k_sweep))))
  k_with "my subscriptTail Name UnaryOp ref int" => ((k_here; (with_reducible show wpAny _ _ (subscriptTail _ _ (Value.ref _) (Value.int _ _)) _ _ _); k_dflt (refine' my_last ?N ?hm ?_; (case N => k_asm); (case hm => k_mem); k_whole)))
  k_with "my call builtin:str.join" => ((k_here; (with_reducible show wpAny _ _ (call (Value.builtin _) [Value.str _ _, Value.ref _]) _ _ _); k_dflt (refine' join_list (News.isList ?N ?hm) ?S ?ok ?_; (case N => k_asm); (case hm => k_mem); (case S => with_reducible assumption); (case ok => ((simp only [show (Str.ofString "/").length = 1 from rfl, show (Str.ofString "").length = 0 from rfl]); omega)); k_whole; intro _ _)))
  k_with "my binaryOp Add str str" => ((k_here; (with_reducible show wpAny _ _ (binaryOp Operator.Add (Value.str _ _) (Value.str _ _)) _ _ _); k_dflt (refine' SBL.add (hsz := ?z) ?_; (case z => (rw [PySem.sizeLine_eq]; (try simp only [show (Str.ofString "/").length = 1 from rfl]); omega)); k_whole; intro _ _)))
  k_with "my truthy str" => ((k_here; (with_reducible show wpAny _ _ (PySem.truthy (Value.str _ _)) _ _ _); k_dflt (refine' KXt.truthy_pos (K := 16777216) ?za ?zb (Nat.le_refl _) ?_; (case za => omega); (case zb => omega); k_whole; intro _)))
  k_with "my m_enterR" => ((refine' enterRest0 ?k1 ?k2 ?k3 ?k5 ?kA ?kF ?kK ?k6 ?k7 ?k8 ?k9 ?kV ?kB ?_ ?c2 ?c3 ?c4 ?c5; (case kA => exact rfl); (case kF => exact rfl); (case kK => assumption); (case k1 => k_asm); (case k2 => k_asm); (case k3 => k_asm); (case k5 => k_asm); (case k6 => k_is); (case k7 => k_is); (case k8 => ktr_room); (case c5 => decide); (case c2 => exact rfl); (case c3 => exact rfl); (case c4 => exact rfl)))
  k_with "my eval Name" => (k_here; dsimp only)
  k_with "my eval Constant int" => (k_here; dsimp only)
  k_with "my eval Constant str" => (k_here; dsimp only)
  k_with "my m_fold" => (((first | (with_reducible show wpAny _ _ (PySem.execs _ _) _ _ _) | (with_reducible show wpAny _ _ (PySem.exec _ _) _ _ _)); (first | ((fail_if_success (have := qk0)); k_fold; (rename PySem.Flow → PySem.Shared → Prop => qk0); (rename PySem.Value → PySem.Shared → Prop => ek0)) | ((fail_if_success (have := qk1)); k_fold; (rename PySem.Flow → PySem.Shared → Prop => qk1); (rename PySem.Value → PySem.Shared → Prop => ek1)) | ((fail_if_success (have := qk2)); k_fold; (rename PySem.Flow → PySem.Shared → Prop => qk2); (rename PySem.Value → PySem.Shared → Prop => ek2)) | ((fail_if_success (have := qk3)); k_fold; (rename PySem.Flow → PySem.Shared → Prop => qk3); (rename PySem.Value → PySem.Shared → Prop => ek3)) | ((fail_if_success (have := qk4)); k_fold; (rename PySem.Flow → PySem.Shared → Prop => qk4); (rename PySem.Value → PySem.Shared → Prop => ek4)) | ((fail_if_success (have := qk5)); k_fold; (rename PySem.Flow → PySem.Shared → Prop => qk5); (rename PySem.Value → PySem.Shared → Prop => ek5)) | ((fail_if_success (have := qk6)); k_fold; (rename PySem.Flow → PySem.Shared → Prop => qk6); (rename PySem.Value → PySem.Shared → Prop => ek6)) | ((fail_if_success (have := qk7)); k_fold; (rename PySem.Flow → PySem.Shared → Prop => qk7); (rename PySem.Value → PySem.Shared → Prop => ek7)) | ((fail_if_success (have := qk8)); k_fold; (rename PySem.Flow → PySem.Shared → Prop => qk8); (rename PySem.Value → PySem.Shared → Prop => ek8)) | ((fail_if_success (have := qk9)); k_fold; (rename PySem.Flow → PySem.Shared → Prop => qk9); (rename PySem.Value → PySem.Shared → Prop => ek9)) | ((fail_if_success (have := qk10)); k_fold; (rename PySem.Flow → PySem.Shared → Prop => qk10); (rename PySem.Value → PySem.Shared → Prop => ek10)) | ((fail_if_success (have := qk11)); k_fold; (rename PySem.Flow → PySem.Shared → Prop => qk11); (rename PySem.Value → PySem.Shared → Prop => ek11)) | ((fail_if_success (have := qk12)); k_fold; (rename PySem.Flow → PySem.Shared → Prop => qk12); (rename PySem.Value → PySem.Shared → Prop => ek12)) | ((fail_if_success (have := qk13)); k_fold; (rename PySem.Flow → PySem.Shared → Prop => qk13); (rename PySem.Value → PySem.Shared → Prop => ek13)) | ((fail_if_success (have := qk14)); k_fold; (rename PySem.Flow → PySem.Shared → Prop => qk14); (rename PySem.Value → PySem.Shared → Prop => ek14)) | ((fail_if_success (have := qk15)); k_fold; (rename PySem.Flow → PySem.Shared → Prop => qk15); (rename PySem.Value → PySem.Shared → Prop => ek15)))))
  k_with "my m_tidy" => (((try clear qk15); (try clear ek15)); ((try clear qk14); (try clear ek14)); ((try clear qk13); (try clear ek13)); ((try clear qk12); (try clear ek12)); ((try clear qk11); (try clear ek11)); ((try clear qk10); (try clear ek10)); ((try clear qk9); (try clear ek9)); ((try clear qk8); (try clear ek8)); ((try clear qk7); (try clear ek7)); ((try clear qk6); (try clear ek6)); ((try clear qk5); (try clear ek5)); ((try clear qk4); (try clear ek4)); ((try clear qk3); (try clear ek3)); ((try clear qk2); (try clear ek2)); ((try clear qk1); (try clear ek1)); ((try clear qk0); (try clear ek0)))
  k_with "my execs cons" => (first | (k_here; k_gentoks) | (k_here; walk_at "m_fold") | (k_here; walk_at "m_tidy"; (with_reducible refine wpAny_execs_cons ?_); (try dsimp only); (try walk_at "m_fold")))
  trivial


set_option maxHeartbeats 8000000 in
theorem join_spec (w : World) (x y : Str) (t u : Tok) (hx0 : 1 ≤ x.length) (hx : x.length ≤ 65536) (hy : y.length ≤ 65536) :
    Spec0 w 170 12 80 (fun _ => True) [.str x t, .str y u] (fun h v => ∃ t, v = .str (if Txt.startswith y (Str.ofString "/") = true then y else if Txt.endswith x (Str.ofString "/") = true then x ++ y else x ++ (Str.ofString "/" ++ y)) t) := by
  intro p loose mean mg mb dp un gd cn cs a ccd cl outer A₀ base h₀ L m s Q E B F X T hk hd hu hpre hret
  refine wpAny_call ?_
  k_dflt (walk_at "m_enterR")
  case k9 => exact (rfl : _ = (newTuple [.str y u] >>= fun v => pure [(Str.ofString "a", .str x t), (Str.ofString "p", v)]))
  case kV => exact Nat.le_of_ble_eq_true rfl
  case kB => exact fun v => locs rfl
  intro D g L' h₁ hg F' N' hDL B' X' T'
  (try dsimp only)
  clear B F X T
  (all_goals try walk_at "m_fold")
  k_steps
  all_goals first
    | (exfalso; omega)
    | (clear hx0 hx hy hd hu; exact hret _ _ _ (fun b o e => Fr.keep (by assumption) b o (hg ▸ e)) ⟨_, by simp only [*, if_true, Bool.false_eq_true, if_false] <;> rfl⟩)

theorem fillit_MNorm : PySem.Challenge.rw_in0069_01 = PySem.Challenge.rw_in0069_01 ∧ hd.heap_39 = hd.heap_39 := by
  w_top off
  k_fill
  exact ⟨rfl, rfl⟩
/-- one part of a path behind those that stand -/
noncomputable def nstep (acc : List Str) (c : Str) : List Str := if c = Str.ofString "" ∨ c = Str.ofString "." then acc else if c = Str.ofString ".." then acc.dropLast else acc ++ [c]
noncomputable def normF (cs : List Str) : List Str := cs.foldl nstep []
theorem normF_take {cs : List Str} {i : Nat} {c : Str} (h : cs[i]? = some c) : normF (cs.take (i + 1)) = nstep (normF (cs.take i)) c := by
  unfold normF
  rw [List.take_add_one, h, List.foldl_append]; rfl
theorem nstep_length (acc : List Str) (c : Str) : (nstep acc c).length ≤ acc.length + 1 := by
  unfold nstep
  split
  · omega
  · split
    · rw [List.length_dropLast]; omega
    · simp
theorem normF_length : ∀ (i : Nat) (cs : List Str), (normF (cs.take i)).length ≤ i := by
  intro i
  induction i with
  | zero => intro cs; simp [normF]
  | succ i ih =>
    intro cs
    cases h : cs[i]? with
    | none =>
      have : cs.take (i + 1) = cs.take i := by rw [List.take_add_one, h]; simp
      rw [this]; have := ih cs; omega
    | some c => rw [normF_take h]; have := nstep_length (normF (cs.take i)) c; have := ih cs; omega
theorem nstep_dd {acc : List Str} {c : Str} (h : Str.ofString ".." ∉ acc) : Str.ofString ".." ∉ nstep acc c := by
  unfold nstep
  split
  · exact h
  · split
    · exact fun q => h (List.dropLast_subset _ q)
    · rename_i hc
      intro q
      rcases List.mem_append.mp q with q | q
      · exact h q
      · exact hc (List.mem_singleton.mp q).symm
theorem normF_dd : ∀ (i : Nat) (cs : List Str), Str.ofString ".." ∉ normF (cs.take i) := by
  intro i
  induction i with
  | zero => intro cs; simp [normF]
  | succ i ih =>
    intro cs
    cases h : cs[i]? with
    | none =>
      have : cs.take (i + 1) = cs.take i := by rw [List.take_add_one, h]; simp
      rw [this]; exact ih cs
    | some c => rw [normF_take h]; exact nstep_dd (ih cs)

theorem nstep_sum (acc : List Str) (c : Str) : ((nstep acc c).map (·.length)).sum ≤ (acc.map (·.length)).sum + c.length := by
  unfold nstep
  split
  · omega
  · split
    · rcases List.eq_nil_or_concat acc with rfl | ⟨i, z, rfl⟩
      · simp
      · simp; omega
    · simp
theorem normF_sum (cs : List Str) : ((normF cs).map (·.length)).sum ≤ (cs.map (·.length)).sum := by
  have all : ∀ (cs acc : List Str), ((cs.foldl nstep acc).map (·.length)).sum ≤ (acc.map (·.length)).sum + (cs.map (·.length)).sum := by
    intro cs
    induction cs with
    | nil => intro acc; simp
    | cons c r ih =>
      intro acc
      have h1 := ih (nstep acc c)
      have h2 := nstep_sum acc c
      simp only [List.foldl_cons, List.map_cons, List.sum_cons]
      omega
  have h := all cs []
  simpa [normF] using h
theorem str_empty {c : Str} (h : (c.length : Int) = 0) : c = Str.ofString "" := by
  obtain ⟨⟨l⟩⟩ := c
  cases l with
  | nil => rfl
  | cons a r => exact absurd h (by simp [Str.length]; omega)
theorem nstep_dot (acc : List Str) {c : Str} (h : (c == Str.ofString ".") = true) : nstep acc c = acc := if_pos (.inr (beq_iff_eq.mp h))
theorem nstep_none (acc : List Str) {c : Str} (h : (c.length : Int) = 0) : nstep acc c = acc := if_pos (.inl (str_empty h))
theorem nstep_up (acc : List Str) {c : Str} (h : (c != Str.ofString "..") = false) : nstep acc c = acc.dropLast := by
  have e : c = Str.ofString ".." := by simpa using h
  subst e
  unfold nstep
  rw [if_neg (by decide), if_pos rfl]
theorem nstep_in (acc : List Str) {c : Str} (h0 : (c.length : Int) ≠ 0) (h1 : (c == Str.ofString ".") = false) (h : (c != Str.ofString "..") = true) : nstep acc c = acc ++ [c] := by
  unfold nstep
  rw [if_neg, if_neg]
  · simpa using h
  · rintro (q | q)
    · subst q; exact h0 rfl
    · subst q; simp at h1

example : True := by
  k_with_none
  k_with "my m_enter" => ((refine' enter0 ?k1 ?k2 ?k3 ?k5 ?kA ?kF ?kK ?k6 ?k7 ?k8 ?k9 ?kB ?_ ?c2 ?c3 ?c4 ?c5; (case kA => exact rfl); (case kF => exact rfl); (case kK => assumption); (case k1 => k_asm); (case k2 => k_asm); (case k3 => k_asm); (case k5 => k_asm); (case k6 => k_is); (case k7 => k_is); (case k8 => ktr_room); (case k9 => exact BindsTo.of_eq rfl); (case c5 => decide); (case kB => exact locs rfl); (case c2 => exact rfl); (case c3 => exact rfl); (case c4 => exact rfl); k_whole))
  k_with "my call builtin:issubclass" => ((k_here; (with_reducible show wpAny _ _ (call _ [Value.type _, Value.ref _]) _ _ _); k_dflt (refine' call_iss ?k1 ?_; (case k1 => exact News.get (by k_asm) (by k_mem)))))
  k_with "my m_start" => ((refine wpAny_call ?_; k_dflt (walk_at "m_enter")))
  k_with "my m_use" => (((case kB => k_asm); (case kF => k_asm); (case kX => k_asm); (case kN => k_asm); (case kT => k_asm); (case kK => first | exact rfl | assumption); (case kD => ktr_room); (case kU => ktr_units)))
  k_with "my call ref" => ((k_here; (with_reducible show wpAny _ _ (call (Value.ref 149) [Value.str _ _]) _ _ _); k_dflt (refine' use0 (fspath_spec _ _ _) ?kB ?kF ?kX ?kN ?kT ?kK ?kD ?kU trivial ?_; walk_at "m_use"; k_whole; intro _ _ _ _ hp' _ _; subst hp'; (try k_sweep))))
  k_with "my call ref" => ((k_here; (with_reducible show wpAny _ _ (call (Value.ref 163) [Value.str _ _]) _ _ _); k_dflt (refine' use0 (getsep_spec _ _ _) ?kB ?kF ?kX ?kN ?kT ?kK ?kD ?kU trivial ?_; walk_at "m_use"; k_whole; intro _ _ _ _ hp' _ _; obtain ⟨_, hp'⟩ := hp'; subst hp'; (try k_sweep))))
  k_with "my call ref" => ((k_here; (with_reducible show wpAny _ _ (call (Value.ref 177) [Value.str _ _]) _ _ _); k_dflt (refine' use0 (splitroot_spec _ _ _ (by assumption) (by assumption) (by assumption)) ?kB ?kF ?kX ?kN ?kT ?kK ?kD ?kU trivial ?_; walk_at "m_use"; k_whole; intro _ _ _ _ hp' _ _; obtain ⟨_, _, _, _, hp', _⟩ := hp'; subst hp'; (try k_sweep))))
  k_with "my exec For Name Name cons nil" => ((k_here; refine Stop.out ?_))
  k_with "my m_loc" => (first
  | exact rfl
  | with_reducible assumption
  | (refine Eq.trans (if_neg (by decide)) ?_; walk_at "m_loc")
  | ((with_reducible rename (∀ y : PySem.Str, y ≠ _ → _ = _) => hm9); refine Eq.trans (hm9 _ (by decide)) ?_; walk_at "m_loc"))
  k_with "my eval Name" => (((k_here; (with_reducible rename Fr _ _ _ _ => kF); k_dflt (refine' ld kF ?k2 ?_; (case k2 => walk_at "m_loc"); k_whole); (try dsimp only)); (try walk_at "m_hF")))
  k_with "my truthy ref" => ((k_here; (with_reducible show wpAny _ _ (truthy (Value.ref _)) _ _ _); k_dflt (refine' kgr_truthy ?N ?hm ?hc ?hd ?hf ?_; (case N => k_asm); (case hm => k_mem); (case hc => exact rfl); (case hd => exact rfl); (case hf => ((try simp only [strValues_length, List.length_append, List.length_cons, List.length_nil]); omega)); k_whole; (simp only [snoc_isEmpty, List.isEmpty_nil, Bool.not_true, Bool.not_false]))))
  k_with "my call builtin:list.append" => ((k_here; (with_reducible show wpAny _ _ (call (Value.builtin _) [Value.ref _, _]) _ _ _); k_dflt (refine' my_append ?F ?N ?U ?z ?_; (case F => k_asm); (case N => k_asm); (case U => k_upd); (case z => (rw [PySem.sizeLine_eq]; (try simp only [strValues_length, List.length_append, List.length_cons, List.length_nil]); omega)); k_whole; intro _ _ _; (try k_sweep))))
  k_with "my call builtin:list.pop" => ((k_here; (with_reducible show wpAny _ _ (call (Value.builtin _) [Value.ref _]) _ _ _); k_dflt (refine' my_pop ?F ?N ?U ?z ?_; (case F => k_asm); (case N => k_asm); (case U => k_upd); (case z => (rw [PySem.sizeLine_eq]; (try simp only [strValues_length, List.length_append, List.length_cons, List.length_nil]); omega)); k_whole; intro _ _ _; (try k_sweep))))
  k_with "my subscriptTail Name UnaryOp ref int" => ((k_here; (with_reducible show wpAny _ _ (subscriptTail _ _ (Value.ref _) (Value.int _ _)) _ _ _); k_dflt (refine' my_last ?N ?hm ?_; (case N => k_asm); (case hm => k_mem); k_whole)))
  k_with "my call builtin:str.join" => ((k_here; (with_reducible show wpAny _ _ (call (Value.builtin _) [Value.str _ _, Value.ref _]) _ _ _); k_dflt (refine' join_list (News.isList ?N ?hm) ?S ?ok ?_; (case N => k_asm); (case hm => k_mem); (case S => with_reducible assumption); (case ok => ((simp only [show (Str.ofString "/").length = 1 from rfl, show (Str.ofString "").length = 0 from rfl]); omega)); k_whole; intro _ _)))
  k_with "my binaryOp Add str str" => ((k_here; (with_reducible show wpAny _ _ (binaryOp Operator.Add (Value.str _ _) (Value.str _ _)) _ _ _); k_dflt (refine' SBL.add (hsz := ?z) ?_; (case z => (rw [PySem.sizeLine_eq]; (try simp only [show (Str.ofString "/").length = 1 from rfl]); omega)); k_whole; intro _ _)))
  k_with "my truthy str" => ((k_here; (with_reducible show wpAny _ _ (PySem.truthy (Value.str _ _)) _ _ _); k_dflt (refine' KXt.truthy_pos (K := 16777216) ?za ?zb (Nat.le_refl _) ?_; (case za => omega); (case zb => omega); k_whole; intro _)))
  k_with "my eval Name" => (k_here; dsimp only)
  k_with "my eval Constant int" => (k_here; dsimp only)
  k_with "my eval Constant str" => (k_here; dsimp only)
  k_with "my m_fold" => (((first | (with_reducible show wpAny _ _ (PySem.execs _ _) _ _ _) | (with_reducible show wpAny _ _ (PySem.exec _ _) _ _ _)); (first | ((fail_if_success (have := qk0)); k_fold; (rename PySem.Flow → PySem.Shared → Prop => qk0); (rename PySem.Value → PySem.Shared → Prop => ek0)) | ((fail_if_success (have := qk1)); k_fold; (rename PySem.Flow → PySem.Shared → Prop => qk1); (rename PySem.Value → PySem.Shared → Prop => ek1)) | ((fail_if_success (have := qk2)); k_fold; (rename PySem.Flow → PySem.Shared → Prop => qk2); (rename PySem.Value → PySem.Shared → Prop => ek2)) | ((fail_if_success (have := qk3)); k_fold; (rename PySem.Flow → PySem.Shared → Prop => qk3); (rename PySem.Value → PySem.Shared → Prop => ek3)) | ((fail_if_success (have := qk4)); k_fold; (rename PySem.Flow → PySem.Shared → Prop => qk4); (rename PySem.Value → PySem.Shared → Prop => ek4)) | ((fail_if_success (have := qk5)); k_fold; (rename PySem.Flow → PySem.Shared → Prop => qk5); (rename PySem.Value → PySem.Shared → Prop => ek5)) | ((fail_if_success (have := qk6)); k_fold; (rename PySem.Flow → PySem.Shared → Prop => qk6); (rename PySem.Value → PySem.Shared → Prop => ek6)) | ((fail_if_success (have := qk7)); k_fold; (rename PySem.Flow → PySem.Shared → Prop => qk7); (rename PySem.Value → PySem.Shared → Prop => ek7)) | ((fail_if_success (have := qk8)); k_fold; (rename PySem.Flow → PySem.Shared → Prop => qk8); (rename PySem.Value → PySem.Shared → Prop => ek8)) | ((fail_if_success (have := qk9)); k_fold; (rename PySem.Flow → PySem.Shared → Prop => qk9); (rename PySem.Value → PySem.Shared → Prop => ek9)) | ((fail_if_success (have := qk10)); k_fold; (rename PySem.Flow → PySem.Shared → Prop => qk10); (rename PySem.Value → PySem.Shared → Prop => ek10)) | ((fail_if_success (have := qk11)); k_fold; (rename PySem.Flow → PySem.Shared → Prop => qk11); (rename PySem.Value → PySem.Shared → Prop => ek11)) | ((fail_if_success (have := qk12)); k_fold; (rename PySem.Flow → PySem.Shared → Prop => qk12); (rename PySem.Value → PySem.Shared → Prop => ek12)) | ((fail_if_success (have := qk13)); k_fold; (rename PySem.Flow → PySem.Shared → Prop => qk13); (rename PySem.Value → PySem.Shared → Prop => ek13)) | ((fail_if_success (have := qk14)); k_fold; (rename PySem.Flow → PySem.Shared → Prop => qk14); (rename PySem.Value → PySem.Shared → Prop => ek14)) | ((fail_if_success (have := qk15)); k_fold; (rename PySem.Flow → PySem.Shared → Prop => qk15); (rename PySem.Value → PySem.Shared → Prop => ek15)))))
  k_with "my m_tidy" => (((try clear qk15); (try clear ek15)); ((try clear qk14); (try clear ek14)); ((try clear qk13); (try clear ek13)); ((try clear qk12); (try clear ek12)); ((try clear qk11); (try clear ek11)); ((try clear qk10); (try clear ek10)); ((try clear qk9); (try clear ek9)); ((try clear qk8); (try clear ek8)); ((try clear qk7); (try clear ek7)); ((try clear qk6); (try clear ek6)); ((try clear qk5); (try clear ek5)); ((try clear qk4); (try clear ek4)); ((try clear qk3); (try clear ek3)); ((try clear qk2); (try clear ek2)); ((try clear qk1); (try clear ek1)); ((try clear qk0); (try clear ek0)))
  k_with "my execs cons" => (first | (k_here; k_gentoks) | (k_here; walk_at "m_fold") | (k_here; walk_at "m_tidy"; (with_reducible refine wpAny_execs_cons ?_); (try dsimp only); (try walk_at "m_fold")))
  trivial


set_option maxHeartbeats 8000000 in
theorem normpath_spec (w : World) (x : Str) (t : Tok) (hx : x.length ≤ 65536) (h1 : Txt.slice x none (some 1) = Str.ofString "/") (h2 : Txt.slice x (some 1) (some 2) ≠ Str.ofString "/") :
    Spec0 w 191 12 80 (fun _ => True) [.str x t] (fun h v => ∃ t, v = .str (Str.ofString "/" ++ Txt.join (Str.ofString "/") (normF (Txt.split (Txt.slice x (some 1) none) (Str.ofString "/")))) t) := by
  intro p loose mean mg mb dp un gd cn cs a ccd cl outer A₀ base h₀ L m s Q E B F X T hk hd hu hpre hret
  have hx1 : x.length ≤ 1048576 := by omega
  have hx0 : 1 ≤ x.length := by
    have h3 := Txt.slice_le x none (some 1)
    rw [h1] at h3
    exact h3
  walk_at "m_start"
  intro g L' h₁ hg F' N' B' X' T'
  (try dsimp only)
  replace F' : Fr g L' h₁ (fun y => List.lookup y [(Str.ofString "path", .str x t)]) := F'
  clear B F X T
  (all_goals try walk_at "m_fold")
  k_steps
  · rename_i lst hA kA hmap hstr hlen hsz hB nc hC hlt hD F1 N1
    have hxl := Txt.slice_le x (some 1) none
    have hll : lst.length ≤ 65540 := by
      have h3 := split_le (Txt.slice x (some 1) none) (Str.ofString "/")
      rw [← hmap, List.length_map] at h3
      omega
    have hww : ((lst.map (·.1)).map (·.length)).sum ≤ 65540 := by
      have h3 := split_weight (Txt.slice x (some 1) none) (Str.ofString "/") (by decide)
      rw [← hmap] at h3
      omega
    refine hide ?_
    intro Gq hGq
    obtain ⟨m0, CL, F1, N1, hCn, e1, e2, ⟨t1, e3⟩, ⟨t2, e4⟩, ⟨t3, e5⟩, ⟨t4, e6⟩⟩ : ∃ m0 CL, Fr g L' hD m0 ∧ News g L' hD [(nc, W.listOf #[] 0), (CL, { cls := .type "list", data := .seq (strValues lst).toArray })] ∧ CL < nc ∧
      m0 (Str.ofString "comps") = some (.ref CL) ∧ m0 (Str.ofString "new_comps") = some (.ref nc) ∧ (∃ t, m0 (Str.ofString "sep") = some (.str (Str.ofString "/") t)) ∧ (∃ t, m0 (Str.ofString "dot") = some (.str (Str.ofString ".") t)) ∧
      (∃ t, m0 (Str.ofString "dotdot") = some (.str (Str.ofString "..") t)) ∧ (∃ t, m0 (Str.ofString "initial_slashes") = some (.str (Str.ofString "/") t)) := ⟨_, _, F1, N1, hlt, rfl, rfl, ⟨_, rfl⟩, ⟨_, rfl⟩, ⟨_, rfl⟩, ⟨_, rfl⟩⟩
    refine hGq ?_
    clear hGq Gq
    k_lt2 hCn
    rw [← hmap] at hret
    refine Stop.go (wpAny_For (ld F1 e1 ?_))
    refine iter_list (fun i m news => (∃ (vs : List Value) (n : Nat), news = [(nc, W.listOf vs.toArray n), (CL, { cls := .type "list", data := .seq (strValues lst).toArray })] ∧ StrsAre vs (normF ((lst.map (·.1)).take i))) ∧ ∀ y : Str, y ≠ Str.ofString "comp" → m y = m0 y) rfl (News.isList N1 (by k_mem)) F1 N1 ⟨⟨[], 0, rfl, .nil⟩, fun _ _ => rfl⟩ ?_ ?_ ?_
    · rintro i m₁ news₁ h hq0 _ N₁
      ((try dsimp only); (try walk_at "m_fold"))
      refine hide ?_
      intro Gq hGq
      obtain ⟨⟨vs, n, rfl, hvs⟩, hm⟩ := hq0
      refine hGq ?_
      clear hGq Gq
      exact News.isList N₁ (by k_mem)
    · rintro i v m₁ news₁ h tk I oI hv hq0 hI hne hLI Fi Ni
      ((try dsimp only); (try walk_at "m_fold"))
      refine hide ?_
      intro Gq hGq
      obtain ⟨⟨vs, n, rfl, hvs⟩, hm⟩ := hq0
      refine hGq ?_
      clear hGq Gq
      refine hide ?_
      intro Gq hGq
      obtain ⟨⟨c, tc⟩, hc, rfl⟩ := strValues_get _ _ _ hv
      refine hGq ?_
      clear hGq Gq
      have hc' : (lst.map (·.1))[i]? = some c := by rw [List.getElem?_map, hc]; rfl
      have hcl := hlen c (List.mem_of_getElem? hc')
      have hcl2 : c.length ≤ 1048576 := by omega
      have hil : i < lst.length := by
        rcases Nat.lt_or_ge i lst.length with q | q
        · exact q
        · rw [List.getElem?_eq_none q] at hc; cases hc
      have hvl : vs.length ≤ 1048580 := by
        have h3 := normF_length i (lst.map (·.1))
        rw [← SA.length hvs] at h3
        omega
      have hdd := normF_dd i (lst.map (·.1))
      have hst := normF_take hc'
      generalize normF ((lst.map (·.1)).take i) = ss at hvs hdd hst
      k_lt hI
      have hne' : ∀ (vs' : List Value) (n' : Nat), ∀ p ∈ [(nc, W.listOf vs'.toArray n'), (CL, ({ cls := .type "list", data := .seq (strValues lst).toArray } : Obj))], p.1 ≠ I := by
        intro vs' n'
        k_all
      rcases List.eq_nil_or_concat vs with rfl | ⟨us, y, rfl⟩
      · clear hv hvl hstr hlen hsz h1 h2 hx hx1 hx0 hcl hxl hll hww
        cases hvs
        (all_goals try walk_at "m_fold")
        k_steps
        · exact TurnEnd.goC _ (by k_asm) (by k_asm) (hne' _ _) ⟨⟨_, _, rfl, by rw [hst, nstep_dot _ (by assumption)]; exact .nil⟩, fun y hy => (if_neg hy).trans (hm y hy)⟩
        · exact TurnEnd.go _ (by k_asm) (by k_asm) (hne' _ _) ⟨⟨_, _, rfl, by rw [hst, nstep_in _ (by assumption) (by assumption) (by assumption)]; exact SA.snoc .nil _ _⟩, fun y hy => (if_neg hy).trans (hm y hy)⟩
        · exact TurnEnd.go _ (by k_asm) (by k_asm) (hne' _ _) ⟨⟨_, _, rfl, by rw [hst, nstep_up _ (by assumption)]; exact .nil⟩, fun y hy => (if_neg hy).trans (hm y hy)⟩
        · exact TurnEnd.goC _ (by k_asm) (by k_asm) (hne' _ _) ⟨⟨_, _, rfl, by rw [hst, nstep_none _ (by assumption)]; exact .nil⟩, fun y hy => (if_neg hy).trans (hm y hy)⟩
      · rw [List.concat_eq_append] at *
        rw [List.length_append] at hvl
        refine hide ?_
        intro Gq hGq
        obtain ⟨ini, z, tz, rfl, rfl, hus⟩ := SA.unsnoc hvs
        refine hGq ?_
        clear hGq Gq
        clear hv hstr hlen hsz h1 h2 hx hx1 hx0 hcl hxl hll hww
        (all_goals try walk_at "m_fold")
        k_steps
        · exact TurnEnd.goC _ (by k_asm) (by k_asm) (hne' _ _) ⟨⟨_, _, rfl, by rw [hst, nstep_dot _ (by assumption)]; exact hvs⟩, fun y hy => (if_neg hy).trans (hm y hy)⟩
        · exact TurnEnd.go _ (by k_asm) (by k_asm) (hne' _ _) ⟨⟨_, _, rfl, by rw [hst, nstep_in _ (by assumption) (by assumption) (by assumption)]; exact SA.snoc hvs _ _⟩, fun y hy => (if_neg hy).trans (hm y hy)⟩
        · exact absurd (List.mem_append.mpr (.inr (List.mem_singleton.mpr (beq_iff_eq.mp (by assumption)).symm))) hdd
        · exact TurnEnd.go _ (by k_asm) (by k_asm) (hne' _ _) ⟨⟨_, _, rfl, by rw [hst, nstep_up _ (by assumption), List.dropLast_concat]; exact hus⟩, fun y hy => (if_neg hy).trans (hm y hy)⟩
        · exact TurnEnd.goC _ (by k_asm) (by k_asm) (hne' _ _) ⟨⟨_, _, rfl, by rw [hst, nstep_none _ (by assumption)]; exact hvs⟩, fun y hy => (if_neg hy).trans (hm y hy)⟩
    · rintro m₁ news₁ h tk hq0 Fi Ni
      ((try dsimp only); (try walk_at "m_fold"))
      refine hide ?_
      intro Gq hGq
      obtain ⟨⟨vs, n, rfl, hvs⟩, hm⟩ := hq0
      refine hGq ?_
      clear hGq Gq
      have htk : (lst.map (·.1)).take (strValues lst).length = lst.map (·.1) := by rw [strValues_length]; exact List.take_of_length_le (by simp)
      rw [htk] at hvs
      have hs1 := normF_sum (lst.map (·.1))
      have hs2 : (normF (lst.map (·.1))).length ≤ 65540 := by
        have h3 := normF_length lst.length (lst.map (·.1))
        rw [List.take_of_length_le (by simp)] at h3
        omega
      clear hstr hlen hsz h1 h2 hx hx1 hx0 hxl htk hmap
      generalize normF (lst.map (·.1)) = ss at *
      have hj := StrLaws.join_length_le (Str.ofString "/") ss
      have hjj : Txt.join (Str.ofString "/") ss = Str.join (Str.ofString "/") ss := beq_iff_eq.mp (join_plain_closes _ _)
      rw [← hjj, show (Str.ofString "/").length = 1 from rfl] at hj
      have hlp : (Str.ofString "/" ++ Txt.join (Str.ofString "/") ss).length = 1 + (Txt.join (Str.ofString "/") ss).length := by rw [Str.length_append]; rfl
      clear hjj
      (all_goals try walk_at "m_fold")
      k_steps
      exact hret _ _ _ (fun b o e => Fr.keep (by assumption) b o (hg ▸ e)) ⟨_, rfl⟩

theorem fillit_MWalkd : PySem.Challenge.rw_in0069_01 = PySem.Challenge.rw_in0069_01 ∧ hd.heap_39 = hd.heap_39 := by
  w_top off
  k_fill
  exact ⟨rfl, rfl⟩
theorem my_add {prog : Program} {w : World} {A : Around} {E : Value → Shared → Prop} {s : Shared} {h₀ : Heap} {L : Addr} {m : Str → Option Value} {news : List (Addr × Obj)} {l b : Addr} {vs ws : List Value} {Q : Value → Shared → Prop} (F : Fr h₀ L s.heap m) (N : News h₀ L s.heap news) (hl : s.heap.IsList l vs.toArray) (hb : s.heap.IsList b ws.toArray)
    (h : ∀ D h', Fr h₀ L h' m → News h₀ L h' ((D, W.listOf (vs ++ ws).toArray 0) :: news) → (∀ p ∈ news, p.1 < D) → Q (.ref D) { s with heap := h' })
    (hsz : vs.length + ws.length ≤ sizeLine) : wpAny (model prog w) A (binaryOp .Add (.ref l) (.ref b)) Q E s :=
  add_lists F N hl hb (fun h' F' N' => h _ h' F' N' fun p hp => Heap.lt_size (N p hp).1) hsz
theorem ne3 {a b c I : Addr} {o1 o2 o3 : Obj} (h1 : a ≠ I) (h2 : b ≠ I) (h3 : c ≠ I) : ∀ p ∈ [(a, o1), (b, o2), (c, o3)], p.1 ≠ I := by
  intro p hp
  rcases List.mem_cons.mp hp with rfl | hp
  · exact h1
  · rcases List.mem_cons.mp hp with rfl | hp
    · exact h2
    · rw [List.mem_singleton.mp hp]; exact h3
theorem my_append2 {prog : Program} {w : World} {A : Around} {E : Value → Shared → Prop} {s : Shared} {h₀ : Heap} {L D : Addr} {m : Str → Option Value} {news news' : List (Addr × Obj)} {n : Nat} {us : List Value} {x : Value} {Q : Value → Shared → Prop} (F : Fr h₀ L s.heap m) (N : News h₀ L s.heap news) (_ : (D, W.listOf us.toArray n) ∈ news) (U : Upd D (W.listOf us.toArray n) (W.listOf (us ++ [x]).toArray (n + 1)) news news')
    (hz : us.length ≤ sizeLine) (h : ∀ h', Fr h₀ L h' m → News h₀ L h' news' → Q .none { s with heap := h' }) : wpAny (model prog w) A (call (.builtin "list.append") [.ref D, x]) Q E s :=
  my_append F N U hz h
theorem pathT (here : List Str) : pathOf here = Str.ofString "/" ++ Txt.join (Str.ofString "/") here := by
  unfold pathOf
  rw [show Txt.join (Str.ofString "/") here = Str.join (Str.ofString "/") here from beq_iff_eq.mp (join_plain_closes _ _)]
theorem ne2 {a b I : Addr} {o1 o2 : Obj} (h1 : a ≠ I) (h2 : b ≠ I) : ∀ p ∈ [(a, o1), (b, o2)], p.1 ≠ I := by
  intro p hp
  rcases List.mem_cons.mp hp with rfl | hp
  · exact h1
  · rw [List.mem_singleton.mp hp]; exact h2
theorem here_sum {here : List Str} (h : hereOk here) : (here.map (·.length)).sum ≤ 2 * here.length := by
  induction here with
  | nil => exact Nat.le_refl _
  | cons c r ih =>
    have h1 := ih fun x hx => h x (.tail _ hx)
    have h2 := (comp_len (h c (.head _))).2
    simp only [List.map_cons, List.sum_cons, List.length_cons]
    omega
theorem SA.dropLast {vs : List Value} {ss : List Str} (h : StrsAre vs ss) : StrsAre vs.dropLast ss.dropLast := by
  induction h with
  | nil => exact .nil
  | cons y t h' ih => cases h' with
    | nil => exact .nil
    | cons y2 t2 h2 => exact .cons y t ih
open PyProof.V PySem.Spec PySem.SeqAt in
theorem layAll_strs {ss : List Str} (h : ∀ s ∈ ss, PyData.strOk s = true) : PyData.canLayAll0 (ss.map PyData.str) = true := by
  induction ss with
  | nil => simp [PyData.canLayAll0]
  | cons c r ih =>
    simp only [List.map_cons, PyData.canLayAll0, PyData.canLay0, Bool.and_eq_true]
    exact ⟨h c (.head _), ih fun s hs => h s (.tail _ hs)⟩
open PyProof.V PySem.Spec PySem.SeqAt in
theorem depthAll_strs (ss : List Str) : PyData.depthAll (ss.map PyData.str) ≤ 1 := by
  induction ss with
  | nil => simp [PyData.depthAll]
  | cons c r ih =>
    simp only [List.map_cons, PyData.depthAll, PyData.depth]
    omega
open PyProof.V PySem.Spec PySem.SeqAt in
theorem shaped_strs {ss : List Str} (h : ∀ s ∈ ss, PyData.strOk s = true) : shaped (.list (ss.map PyData.str)) = true := by
  unfold shaped
  rw [Bool.and_eq_true_iff]
  constructor
  · simp only [PyData.canLay0]; exact layAll_strs h
  · have := depthAll_strs ss
    simp only [PyData.depth]
    exact decide_eq_true (by omega)
open PyProof.V PySem.Spec PySem.SeqAt in
theorem here_shaped {ss : List Str} (h : hereOk ss) : shaped (.list (ss.map PyData.str)) = true :=
  shaped_strs fun s hs => by rcases h s hs with rfl | rfl | rfl <;> decide +kernel
theorem last_len {ss : List Str} (h : hereOk ss) : (lastOf ss).length ≤ 2 := by
  unfold lastOf
  split
  · decide
  · rename_i hne
    rcases List.eq_nil_or_concat ss with rfl | ⟨i, z, rfl⟩
    · exact absurd rfl hne
    · have e : ((i.concat z).getD ((i.concat z).length - 1) Str.empty) = z := by simp
      rw [e]
      exact (comp_len (h z (by simp))).2


example : True := by
  k_with_none
  k_with "my m_enter" => ((refine' enter0 ?k1 ?k2 ?k3 ?k5 ?kA ?kF ?kK ?k6 ?k7 ?k8 ?k9 ?kB ?_ ?c2 ?c3 ?c4 ?c5; (case kA => exact rfl); (case kF => exact rfl); (case kK => assumption); (case k1 => k_asm); (case k2 => k_asm); (case k3 => k_asm); (case k5 => k_asm); (case k6 => k_is); (case k7 => k_is); (case k8 => ktr_room); (case k9 => exact BindsTo.of_eq rfl); (case c5 => decide); (case kB => exact locs rfl); (case c2 => exact rfl); (case c3 => exact rfl); (case c4 => exact rfl); k_whole))
  k_with "my call builtin:issubclass" => ((k_here; (with_reducible show wpAny _ _ (call _ [Value.type _, Value.ref _]) _ _ _); k_dflt (refine' call_iss ?k1 ?_; (case k1 => exact News.get (by k_asm) (by k_mem)))))
  k_with "my m_start" => ((refine wpAny_call ?_; k_dflt (walk_at "m_enter")))
  k_with "my m_use" => (((case kB => k_asm); (case kF => k_asm); (case kX => k_asm); (case kN => k_asm); (case kT => k_asm); (case kK => first | exact rfl | assumption); (case kD => ktr_room); (case kU => ktr_units)))
  k_with "my exec For Name Name cons nil" => ((k_here; refine Stop.out ?_))
  k_with "my exec For Tuple Name cons nil" => ((k_here; refine Stop.out ?_))
  k_with "my eval ListComp Call cons" => ((k_here; refine Stop.out ?_))
  k_with "my eval ListComp Name cons" => ((k_here; refine Stop.out ?_))
  k_with "my eval ListComp BinOp cons" => ((k_here; refine Stop.out ?_))
  k_with "my eval ListComp Tuple cons" => ((k_here; refine Stop.out ?_))
  k_with "my m_loc" => (first
  | exact rfl
  | with_reducible assumption
  | (refine Eq.trans (if_neg (by decide)) ?_; walk_at "m_loc")
  | ((with_reducible rename (∀ y : PySem.Str, y ≠ _ → _ = _) => hm9); refine Eq.trans (hm9 _ (by decide)) ?_; walk_at "m_loc"))
  k_with "my eval Name" => (((k_here; (with_reducible rename Fr _ _ _ _ => kF); k_dflt (refine' ld kF ?k2 ?_; (case k2 => walk_at "m_loc"); k_whole); (try dsimp only)); (try walk_at "m_hF")))
  k_with "my truthy ref" => ((k_here; (with_reducible show wpAny _ _ (truthy (Value.ref _)) _ _ _); k_dflt (refine' kgr_truthy ?N ?hm ?hc ?hd ?hf ?_; (case N => k_asm); (case hm => k_mem); (case hc => exact rfl); (case hd => exact rfl); (case hf => ((try simp only [strValues_length, List.length_append, List.length_cons, List.length_nil]); omega)); k_whole; (simp only [snoc_isEmpty, List.isEmpty_nil, Bool.not_true, Bool.not_false]))))
  k_with "my call builtin:list.append" => ((k_here; (with_reducible show wpAny _ _ (call (Value.builtin _) [Value.ref _, _]) _ _ _); k_dflt (refine' my_append ?F ?N ?U ?z ?_; (case F => k_asm); (case N => k_asm); (case U => k_upd); (case z => (rw [PySem.sizeLine_eq]; (try simp only [strValues_length, List.length_append, List.length_cons, List.length_nil]); omega)); k_whole; intro _ _ _; (try k_sweep))))
  k_with "my call builtin:list.pop" => ((k_here; (with_reducible show wpAny _ _ (call (Value.builtin _) [Value.ref _]) _ _ _); k_dflt (refine' my_pop ?F ?N ?U ?z ?_; (case F => k_asm); (case N => k_asm); (case U => k_upd); (case z => (rw [PySem.sizeLine_eq]; (try simp only [strValues_length, List.length_append, List.length_cons, List.length_nil]); omega)); k_whole; intro _ _ _; (try k_sweep))))
  k_with "my subscriptTail Name UnaryOp ref int" => ((k_here; (with_reducible show wpAny _ _ (subscriptTail _ _ (Value.ref _) (Value.int _ _)) _ _ _); k_dflt (refine' my_last ?N ?hm ?_; (case N => k_asm); (case hm => k_mem); k_whole)))
  k_with "my call builtin:str.join" => ((k_here; (with_reducible show wpAny _ _ (call (Value.builtin _) [Value.str _ _, Value.ref _]) _ _ _); k_dflt (refine' join_list (News.isList ?N ?hm) ?S ?ok ?_; (case N => k_asm); (case hm => k_mem); (case S => with_reducible assumption); (case ok => ((simp only [show (Str.ofString "/").length = 1 from rfl, show (Str.ofString "").length = 0 from rfl]); omega)); k_whole; intro _ _)))
  k_with "my binaryOp Add str str" => ((k_here; (with_reducible show wpAny _ _ (binaryOp Operator.Add (Value.str _ _) (Value.str _ _)) _ _ _); k_dflt (refine' SBL.add (hsz := ?z) ?_; (case z => (rw [PySem.sizeLine_eq]; (try simp only [show (Str.ofString "/").length = 1 from rfl]); omega)); k_whole; intro _ _)))
  k_with "my truthy str" => ((k_here; (with_reducible show wpAny _ _ (PySem.truthy (Value.str _ _)) _ _ _); k_dflt (refine' KXt.truthy_pos (K := 16777216) ?za ?zb (Nat.le_refl _) ?_; (case za => omega); (case zb => omega); k_whole; intro _)))
  k_with "my eval Name" => (((k_here; (with_reducible rename NsObj _ _ => nX9); k_dflt (refine' ldVarK (NsObj.ns nX9 (News.get ?N ?hm)) ?hv ?_; (case N => k_asm); (case hm => k_mem); (case hv => with_reducible assumption); k_whole)); (try walk_at "m_hX")))
  k_with "my call builtin:str.join" => ((k_here; (with_reducible show wpAny _ _ (call (Value.builtin _) [Value.str _ _, Value.ref _]) _ _ _); k_dflt (refine' join_list ?hl ?S ?ok ?_; (case hl => exact Heap.IsList.at (by with_reducible assumption) (Fr.keep (by k_asm) _)); (case S => with_reducible assumption); (case ok => ((simp only [show (Str.ofString "/").length = 1 from rfl, show (Str.ofString "").length = 0 from rfl]); omega)); k_whole; intro _ _)))
  k_with "my eval Name" => (((k_here; (with_reducible rename Fr _ _ _ _ => kF); (with_reducible rename NsObj _ _ => nX9); k_dflt (refine' nameG_B kF ?k1 ?k2 ?k3 ?k4 ?k5 ?_ ?k6 ?k7 ?k8 ?k9 ?k10; (case k1 => k_asm); (case k2 => k_asm); (case k3 => k_is); (case k4 => boot_by_name); (case k5 => decide); (case k6 => exact rfl); (case k7 => exact rfl); (case k8 => exact rfl); (case k9 => exact rfl); (case k10 => decide); k_whole)); (try walk_at "m_hF"); (try walk_at "m_hX")))
  k_with "my binaryOp Add ref ref" => ((k_here; (with_reducible show wpAny _ _ (binaryOp Operator.Add (Value.ref _) (Value.ref _)) _ _ _); k_dflt (refine' add_lists ?F ?N (News.isList ?N1 ?m1) (News.isList ?N2 ?m2) ?_ ?z; (case F => k_asm); (case N => k_asm); (case N1 => k_asm); (case m1 => k_mem); (case N2 => k_asm); (case m2 => k_mem); (case z => (rw [PySem.sizeLine_eq]; (try simp only [List.length_append, List.length_cons, List.length_nil]); omega)); k_whole; intro _ _ _; (try k_sweep))))
  k_with "my call builtin:len" => ((k_here; (with_reducible show wpAny _ _ (call _ [Value.ref _]) _ _ _); k_dflt (refine' len_list ?hl ?hf ?_; (case hl => exact Heap.IsList.at (by with_reducible assumption) (Fr.keep (by k_asm) _)); (case hf => ((simp only [List.size_toArray]); omega)); k_whole; (try simp only [List.size_toArray]))))
  k_with "my call type:bytes" => ((k_here; (with_reducible show wpAny _ _ (call (Value.type _) [Value.ref _]) _ _ _); k_dflt (refine' bytes_K ?F ?N (News.isList ?N1 ?m1) ?i ?r ?z ?h ?_; (case F => k_asm); (case N => k_asm); (case N1 => k_asm); (case m1 => k_mem); (case i => with_reducible assumption); (case r => with_reducible assumption); (case z => (rw [PySem.sizeLine_eq]; omega)); (case h => exact rfl); k_whole; intro _ _ _ _ _ _; (try k_sweep))))
  k_with "my compareOp NotEq ref ref" => ((k_here; (with_reducible show wpAny _ _ (compareOp CmpOp.NotEq (Value.ref _) (Value.ref _)) _ _ _); k_dflt (refine' my_neS (News.isList ?N1 ?m1) ?i1 (News.isList ?N2 ?m2) ?u ?z ?_; (case N1 => k_asm); (case m1 => k_mem); (case i1 => with_reducible assumption); (case N2 => k_asm); (case m2 => k_mem); (case u => units_room); (case z => with_reducible assumption); k_whole; (try simp only [List.isEmpty_cons, List.isEmpty_nil, Bool.not_true, Bool.not_false]))))
  k_with "my call ref" => ((k_here; (with_reducible show wpAny _ _ (call (Value.ref 230) [Value.ref _, Value.str _ _]) _ _ _); k_dflt (refine' use0 (fits_spec _ _ _ _ _ (by assumption) (by assumption) (by assumption)) ?kB ?kF ?kX ?kN ?kT ?kK ?kD ?kU ?kp ?_; walk_at "m_use"; (case kp => exact ⟨_, _, rfl, Heap.IsList.at (by with_reducible assumption) (Fr.keep (by k_asm) _), by with_reducible assumption⟩); k_whole; intro _ _ _ _ hp' _ _; subst hp'; (try k_sweep))))
  k_with "my compareOp NotIn str ref" => ((k_here; (with_reducible show wpAny _ _ (compareOp _ (Value.str _ _) (Value.ref _)) _ _ _); k_dflt (refine' notin_list_strs (vs := [_, _]) (News.isList ?N1 ?m1) (.cons _ _ (.cons _ _ .nil)) ?_; (case N1 => k_asm); (case m1 => k_mem); k_whole)))
  k_with "my subscriptTail Name Constant ref int" => ((k_here; (with_reducible show wpAny _ _ (subscriptTail _ _ (Value.ref _) (Value.int _ _)) _ _ _); k_dflt (refine' item_strsR ?l ?i ?z1 ?z2 ?z3 ?_ ?s; (case l => exact Heap.IsList.at (by with_reducible assumption) (Fr.keep (by k_asm) _)); (case i => with_reducible assumption); (case z1 => decide); (case z2 => omega); (case z3 => decide); (case s => with_unfolding_all rfl); k_whole; intro _)))
  k_with "my subscriptTail Name UnaryOp ref int" => ((k_here; (with_reducible show wpAny _ _ (subscriptTail _ _ (Value.ref _) (Value.int _ _)) _ _ _); k_dflt (refine' item_strs_negR (News.isList ?N1 ?m1) ?i ?z1 ?z2 ?z3 ?_ ?s; (case N1 => k_asm); (case m1 => k_mem); (case i => with_reducible assumption); (case z1 => decide); (case z2 => omega); (case z3 => decide); (case s => with_unfolding_all rfl); k_whole; intro _)))
  k_with "my subscriptTail Name Slice ref ref" => ((k_here; (with_reducible show wpAny _ _ (subscriptTail _ (PySem.Expr.Slice none (some _) none _) (Value.ref _) (Value.ref _)) _ _ _); k_dflt (refine' kmk_slice_lit ?F ?N (News.isList ?N1 ?m1) ?p1 ?p2 (init_pick _) ?_ ?s ?t ?z; (case F => k_asm); (case N => k_asm); (case N1 => k_asm); (case m1 => k_mem); (case p1 => exact IsPart.none); (case p2 => exact IsPart.int _ _); (case s => with_unfolding_all rfl); (case t => kmk_pure); (case z => (rw [PySem.sizeLine_eq, List.size_toArray]; omega)); k_whole; walk_at "m_i5")))
  k_with "my binaryOp Add ref ref" => ((k_here; (with_reducible show wpAny _ _ (binaryOp Operator.Add (Value.ref _) (Value.ref _)) _ _ _); k_dflt (refine' my_add ?F ?N (News.isList ?N1 ?m1) (News.isList ?N2 ?m2) ?_ ?z; (case F => k_asm); (case N => k_asm); (case N1 => k_asm); (case m1 => k_mem); (case N2 => k_asm); (case m2 => k_mem); (case z => (rw [PySem.sizeLine_eq]; (try simp only [List.length_append, List.length_cons, List.length_nil]); omega)); k_whole; walk_at "m_i5")))
  k_with "my call builtin:str.join" => ((k_here; (with_reducible show wpAny _ _ (call (Value.builtin _) [Value.str _ _, Value.ref _]) _ _ _); k_dflt (refine' join_listW (News.isList ?N ?hm) ?S (by decide) ?ok ?_; (case N => k_asm); (case hm => k_mem); (case S => with_reducible assumption); (case ok => with_reducible assumption); k_whole; intro _ _)))
  k_with "my call builtin:list.append" => ((k_here; (with_reducible show wpAny _ _ (call (Value.builtin _) [Value.ref _, _]) _ _ _); k_dflt (refine' my_append2 ?F ?N ?hm ?U ?z ?_; (case F => k_asm); (case N => k_asm); (case hm => k_mem); (case U => k_upd); (case z => (rw [PySem.sizeLine_eq]; omega)); k_whole; intro _ _ _; (try k_sweep))))
  k_with "my eval Name" => (k_here; dsimp only)
  k_with "my eval Constant int" => (k_here; dsimp only)
  k_with "my eval Constant str" => (k_here; dsimp only)
  k_with "my m_fold" => (((first | (with_reducible show wpAny _ _ (PySem.execs _ _) _ _ _) | (with_reducible show wpAny _ _ (PySem.exec _ _) _ _ _)); (first | ((fail_if_success (have := qk0)); k_fold; (rename PySem.Flow → PySem.Shared → Prop => qk0); (rename PySem.Value → PySem.Shared → Prop => ek0)) | ((fail_if_success (have := qk1)); k_fold; (rename PySem.Flow → PySem.Shared → Prop => qk1); (rename PySem.Value → PySem.Shared → Prop => ek1)) | ((fail_if_success (have := qk2)); k_fold; (rename PySem.Flow → PySem.Shared → Prop => qk2); (rename PySem.Value → PySem.Shared → Prop => ek2)) | ((fail_if_success (have := qk3)); k_fold; (rename PySem.Flow → PySem.Shared → Prop => qk3); (rename PySem.Value → PySem.Shared → Prop => ek3)) | ((fail_if_success (have := qk4)); k_fold; (rename PySem.Flow → PySem.Shared → Prop => qk4); (rename PySem.Value → PySem.Shared → Prop => ek4)) | ((fail_if_success (have := qk5)); k_fold; (rename PySem.Flow → PySem.Shared → Prop => qk5); (rename PySem.Value → PySem.Shared → Prop => ek5)) | ((fail_if_success (have := qk6)); k_fold; (rename PySem.Flow → PySem.Shared → Prop => qk6); (rename PySem.Value → PySem.Shared → Prop => ek6)) | ((fail_if_success (have := qk7)); k_fold; (rename PySem.Flow → PySem.Shared → Prop => qk7); (rename PySem.Value → PySem.Shared → Prop => ek7)) | ((fail_if_success (have := qk8)); k_fold; (rename PySem.Flow → PySem.Shared → Prop => qk8); (rename PySem.Value → PySem.Shared → Prop => ek8)) | ((fail_if_success (have := qk9)); k_fold; (rename PySem.Flow → PySem.Shared → Prop => qk9); (rename PySem.Value → PySem.Shared → Prop => ek9)) | ((fail_if_success (have := qk10)); k_fold; (rename PySem.Flow → PySem.Shared → Prop => qk10); (rename PySem.Value → PySem.Shared → Prop => ek10)) | ((fail_if_success (have := qk11)); k_fold; (rename PySem.Flow → PySem.Shared → Prop => qk11); (rename PySem.Value → PySem.Shared → Prop => ek11)) | ((fail_if_success (have := qk12)); k_fold; (rename PySem.Flow → PySem.Shared → Prop => qk12); (rename PySem.Value → PySem.Shared → Prop => ek12)) | ((fail_if_success (have := qk13)); k_fold; (rename PySem.Flow → PySem.Shared → Prop => qk13); (rename PySem.Value → PySem.Shared → Prop => ek13)) | ((fail_if_success (have := qk14)); k_fold; (rename PySem.Flow → PySem.Shared → Prop => qk14); (rename PySem.Value → PySem.Shared → Prop => ek14)) | ((fail_if_success (have := qk15)); k_fold; (rename PySem.Flow → PySem.Shared → Prop => qk15); (rename PySem.Value → PySem.Shared → Prop => ek15)))))
  k_with "my m_tidy" => (((try clear qk15); (try clear ek15)); ((try clear qk14); (try clear ek14)); ((try clear qk13); (try clear ek13)); ((try clear qk12); (try clear ek12)); ((try clear qk11); (try clear ek11)); ((try clear qk10); (try clear ek10)); ((try clear qk9); (try clear ek9)); ((try clear qk8); (try clear ek8)); ((try clear qk7); (try clear ek7)); ((try clear qk6); (try clear ek6)); ((try clear qk5); (try clear ek5)); ((try clear qk4); (try clear ek4)); ((try clear qk3); (try clear ek3)); ((try clear qk2); (try clear ek2)); ((try clear qk1); (try clear ek1)); ((try clear qk0); (try clear ek0)))
  k_with "my execs cons" => (first | (k_here; k_gentoks) | (k_here; walk_at "m_fold") | (k_here; walk_at "m_tidy"; (with_reducible refine wpAny_execs_cons ?_); (try dsimp only); (try walk_at "m_fold")))
  trivial


set_option maxHeartbeats 8000000 in
theorem walked_spec (w : World) (l : Addr) (os : List (Int × List Str)) (hok : ∀ o ∈ os, ordOk o) (hln : os.length ≤ 20) :
    Spec0 w 244 24 160 (fun h => ListAt h OrdAt (.ref l) os) [.ref l] (fun h v => ListAt h TellIs v (os.foldl walkStep ([], [])).2) := by
  intro p loose mean mg mb dp un gd cn cs a ccd cl outer A₀ base h₀ L m s Q E B F X T hk hd hu hpre hret
  walk_at "m_start"
  intro g L' h₁ hg F' N' B' X' T'
  (try dsimp only)
  replace F' : Fr g L' h₁ (fun y => List.lookup y [(Str.ofString "orders", .ref l)]) := F'
  rw [hg] at hpre
  clear B F X T
  refine hide ?_
  intro Gq hGq
  obtain ⟨_, vs, hl, hls, hvs⟩ := hpre
  refine hGq ?_
  clear hGq Gq
  cases hl
  have hll := hvs.length
  try k_fold
  (all_goals try walk_at "m_fold")
  k_steps
  rename_i H hA lA hB T hC lT hD F1 N1
  refine hide ?_
  intro Gq hGq
  obtain ⟨m0, F1, e1, e2, e3⟩ : ∃ m0, Fr g L' hD m0 ∧ m0 (Str.ofString "orders") = some (.ref l) ∧ m0 (Str.ofString "here") = some (.ref H) ∧ m0 (Str.ofString "told") = some (.ref T) := ⟨_, F1, rfl, rfl, rfl⟩
  refine hGq ?_
  clear hGq Gq
  refine Stop.go (wpAny_For (ld F1 e1 ?_))
  refine iter_list (fun i m news => ∃ (H T : Addr) (hv tv : List Value) (n n' : Nat), news = [(T, W.listOf tv.toArray n'), (H, W.listOf hv.toArray n)] ∧ H ≠ T ∧ m (Str.ofString "here") = some (.ref H) ∧ m (Str.ofString "told") = some (.ref T) ∧
      StrsAre hv ((os.take i).foldl walkStep ([], [])).1 ∧ All2 (TellIs g) tv ((os.take i).foldl walkStep ([], [])).2 ∧ hereOk ((os.take i).foldl walkStep ([], [])).1 ∧ ((os.take i).foldl walkStep ([], [])).1.length ≤ 7 * i ∧ ((os.take i).foldl walkStep ([], [])).2.length ≤ i)
    rfl (hls.at (F1.keep _)) F1 N1 ⟨H, T, [], [], _, _, rfl, Nat.ne_of_lt lT, e2, e3, .nil, .nil, (fun c hc => by cases hc), Nat.le_refl _, Nat.le_refl _⟩ ?_ ?_ ?_
  · intro i m₁ news₁ h _ Fi _
    exact hls.at (Fi.keep _)
  · rintro i v m₁ news₁ h tk I oI hv hq0 hI hne hLI Fi Ni
    ((try dsimp only); (try walk_at "m_fold"))
    refine hide ?_
    intro Gq hGq
    obtain ⟨H, T, hv', tv, n, n', rfl, hHT, e2, e3, hhv, htv, hho, hhl, htl⟩ := hq0
    refine hGq ?_
    clear hGq Gq
    refine hide ?_
    intro Gq hGq
    obtain ⟨⟨kd, row⟩, ho, a', t', r, rv, rfl, ht, hrl, hrv⟩ := hvs.get hv
    refine hGq ?_
    clear hGq Gq
    have hto := IsTup.keeps ht Fi.keep
    have hoo := hok _ (List.mem_of_getElem? ho)
    have hil : i < os.length := (List.getElem?_eq_some_iff.mp ho).1
    have hnx : (os.take (i + 1)).foldl walkStep ([], []) = walkStep ((os.take i).foldl walkStep ([], [])) (kd, row) := by
      rw [take_snoc ho, List.foldl_append]; rfl
    rw [hnx]
    generalize hst : (os.take i).foldl walkStep ([], []) = st at hhv htv hho hhl htl ⊢
    obtain ⟨here, told⟩ := st
    dsimp only at hhv htv hho hhl htl
    replace Fi : Fr g L' h _ := Fi
    replace Ni : News g L' h _ := Ni
    have hTI : T ≠ I := hne _ (.head _)
    have hHI : H ≠ I := hne _ (.tail _ (.head _))
    replace hTI := neN hTI
    replace hHI := neN hHI
    replace hHT := neN hHT
    k_lt hI
    have hhvl := SA.length hhv
    have htvl := htv.length
    have hrvl : rv.length = row.length := SA.length hrv
    dsimp only [ordOk] at hoo ht hto hrv
    rcases hoo with ⟨hk0, hne0, hrl7, hpo⟩ | ⟨hk1, hne0, hrl3, hpo⟩
    · subst hk0
      have hr1 : 0 < row.length := List.length_pos_iff.mpr hne0
      (all_goals try walk_at "m_fold")
      k_steps
      rename_i hs0 hs1 hs2 tk2 tk1 t9 hz tkz Hs hA1 lHs hX F3 N3
      refine hide ?_
      intro Gq hGq
      obtain ⟨Hs, hsv, ns, m3, F4, N4, a1, a2, a3, a4, a5, a6, a7, a8⟩ : ∃ (Hs : Addr) (hsv : List Value) (ns : Nat) (m3 : Str → Option Value), Fr g L' hX m3 ∧ News g L' hX [(Hs, W.listOf hsv.toArray ns), (I, oI), (T, W.listOf tv.toArray n')] ∧
          m3 (Str.ofString "here") = some (.ref Hs) ∧ m3 (Str.ofString "told") = some (.ref T) ∧ m3 (Str.ofString "row") = some (.ref r) ∧ StrsAre hsv (startOf here row) ∧ hereOk (startOf here row) ∧ (startOf here row).length ≤ here.length ∧ Hs ≠ T ∧ Hs ≠ I := by
        have e : startOf here row = [] := by unfold startOf; exact if_pos (eq_of_beq hz)
        rw [e]
        exact ⟨Hs, [], 0, _, F3, fun p hp => N3 p (by revert p; k_allIn), rfl, e3, rfl, .nil, (fun c hc => by cases hc), Nat.zero_le _, Nat.ne_of_gt lHs.2.1, Nat.ne_of_gt lHs.1⟩
      refine hGq ?_
      clear hGq Gq
      rotate_left
      with_reducible rename Fr _ _ _ _ => F3
      with_reducible rename News _ _ _ _ => N3
      rename_i hs0 hs1 hX tk1 tk0 t9 hz
      refine hide ?_
      intro Gq hGq
      obtain ⟨Hs, hsv, ns, m3, F4, N4, a1, a2, a3, a4, a5, a6, a7, a8⟩ : ∃ (Hs : Addr) (hsv : List Value) (ns : Nat) (m3 : Str → Option Value), Fr g L' hX m3 ∧ News g L' hX [(Hs, W.listOf hsv.toArray ns), (I, oI), (T, W.listOf tv.toArray n')] ∧
          m3 (Str.ofString "here") = some (.ref Hs) ∧ m3 (Str.ofString "told") = some (.ref T) ∧ m3 (Str.ofString "row") = some (.ref r) ∧ StrsAre hsv (startOf here row) ∧ hereOk (startOf here row) ∧ (startOf here row).length ≤ here.length ∧ Hs ≠ T ∧ Hs ≠ I := by
        have e : startOf here row = here := by unfold startOf; exact if_neg (fun q => by rw [beq_eq_false_iff_ne] at hz; exact hz q)
        rw [e]
        exact ⟨H, hv', n, _, F3, fun p hp => N3 p (by revert p; k_allIn), e2, e3, rfl, hhv, hho, Nat.le_refl _, hHT, hne _ (.tail _ (.head _))⟩
      refine hGq ?_
      clear hGq Gq
      all_goals
        clear F3 N3
        refine Stop.go (wpAny_For (ld F4 a3 ?_))
        refine iter_list (fun j m news => ∃ (H' : Addr) (hv' : List Value) (n : Nat), news = [(H', W.listOf hv'.toArray n), (I, oI), (T, W.listOf tv.toArray n')] ∧ m (Str.ofString "here") = some (.ref H') ∧ m (Str.ofString "told") = some (.ref T) ∧
            StrsAre hv' ((row.take j).foldl stepPart (startOf here row)) ∧ hereOk ((row.take j).foldl stepPart (startOf here row)) ∧ ((row.take j).foldl stepPart (startOf here row)).length ≤ here.length + j ∧ H' ≠ T ∧ H' ≠ I)
          rfl (hrl.at (F4.keep _)) F4 N4 ⟨Hs, hsv, ns, rfl, a1, a2, a4, a5, a6, a7, a8⟩ ?_ ?_ ?_
        · intro j m₂ news₂ h2 _ F5 _
          exact hrl.at (F5.keep _)
        · rintro j v m₂ news₂ h2 tk2 I2 oI2 hv2 hq0 hI2 hne2 hLI2 F5 N5
          ((try dsimp only); (try walk_at "m_fold"))
          refine hide ?_
          intro Gq hGq
          obtain ⟨H', hv2', n2, rfl, b1, b2, b3, b4, b5, b6, b7⟩ := hq0
          refine hGq ?_
          clear hGq Gq
          refine hide ?_
          intro Gq hGq
          obtain ⟨part, tp, rfl, hpj⟩ := SA.get hrv hv2
          refine hGq ?_
          clear hGq Gq
          have hpk := hpo part (List.mem_of_getElem? hpj)
          have hjl : j < row.length := (List.getElem?_eq_some_iff.mp hpj).1
          have hnp : (row.take (j + 1)).foldl stepPart (startOf here row) = stepPart ((row.take j).foldl stepPart (startOf here row)) part := by
            rw [take_snoc hpj, List.foldl_append]; rfl
          rw [hnp]
          generalize hcur : (row.take j).foldl stepPart (startOf here row) = cur at b3 b4 b5 ⊢
          have hcl := SA.length b3
          have hcok := hereOk_step b4 hpk
          have hclen := stepPart_len cur part
          replace F5 : Fr g L' h2 _ := F5
          replace N5 : News g L' h2 _ := N5
          have hHI2 : H' ≠ I2 := hne2 _ (.head _)
          k_lt hI2
          (all_goals try walk_at "m_fold")
          k_steps
          · rename_i hq _ D hD1 lD hD2 F6 N6
            have e9 : stepPart cur part = cur.dropLast := by unfold stepPart; exact if_pos (eq_of_beq hq)
            refine TurnEnd.goS [(D, W.listOf hv2'.dropLast.toArray 0), (I, oI), (T, W.listOf tv.toArray n')] F6 N6 (by k_allIn) (ne3 (Nat.ne_of_gt lD.1) (Nat.ne_of_lt hI2.2.1) (Nat.ne_of_lt hI2.2.2)) ⟨D, hv2'.dropLast, 0, rfl, rfl, b2, by rw [e9]; exact SA.dropLast b3, hcok, Nat.le_trans hclen (Nat.succ_le_succ b5), Nat.ne_of_gt lD.2.2.2, Nat.ne_of_gt lD.2.2.1⟩
          · rename_i hq tkq lq hD1 F6 N6 lD hin
            have hnd : ¬ part = Str.ofString ".." := by rw [beq_eq_false_iff_ne] at hq; exact hq
            have hpd : part = Str.ofString "" ∨ part = Str.ofString "." := by
              simp only [List.any_cons, List.any_nil, Bool.or_false, Bool.or_eq_true, beq_iff_eq] at hin
              exact hin.imp Eq.symm Eq.symm
            have e9 : stepPart cur part = cur := by unfold stepPart; rw [if_neg hnd, if_pos hpd]
            refine TurnEnd.goS [(H', W.listOf hv2'.toArray n2), (I, oI), (T, W.listOf tv.toArray n')] F6 N6 (by k_allIn) (ne3 hHI2 (Nat.ne_of_lt hI2.2.1) (Nat.ne_of_lt hI2.2.2)) ⟨H', hv2', n2, rfl, b1, b2, by rw [e9]; exact b3, hcok, Nat.le_trans hclen (Nat.succ_le_succ b5), b6, b7⟩
          · with_reducible rename Fr _ _ _ _ => F6
            with_reducible rename News _ _ _ _ => N6
            rename_i h9 tk9 hq tk8 l8 h8 l8' hin tk7 l7 h7 l7' D h6 lD h5
            have hnd : ¬ part = Str.ofString ".." := by rw [beq_eq_false_iff_ne] at hq; exact hq
            have hpd : ¬ (part = Str.ofString "" ∨ part = Str.ofString ".") := by
              intro hc
              have : ([Str.ofString "", Str.ofString "."].any fun x => x == part) = true := by
                simp only [List.any_cons, List.any_nil, Bool.or_false, Bool.or_eq_true, beq_iff_eq]
                exact hc.imp Eq.symm Eq.symm
              rw [this] at hin; cases hin
            have e9 : stepPart cur part = cur ++ [part] := by unfold stepPart; rw [if_neg hnd, if_neg hpd]
            refine TurnEnd.goS [(D, W.listOf (hv2' ++ [Value.str part tp]).toArray 0), (I, oI), (T, W.listOf tv.toArray n')] F6 N6 (by k_allIn) (ne3 (Nat.ne_of_gt lD.2.2.1) (Nat.ne_of_lt hI2.2.1) (Nat.ne_of_lt hI2.2.2)) ⟨D, hv2' ++ [Value.str part tp], 0, rfl, rfl, b2, by rw [e9]; exact SA.snoc b3 _ _, hcok, Nat.le_trans hclen (Nat.succ_le_succ b5), Nat.ne_of_gt lD.2.2.2.2.2, Nat.ne_of_gt lD.2.2.2.2.1⟩
        · rintro m₂ news₂ h2 tk2 hq0 F5 N5
          ((try dsimp only); (try walk_at "m_fold"))
          refine hide ?_
          intro Gq hGq
          obtain ⟨H', hv2', n2, rfl, b1, b2, b3, b4, b5, b6, b7⟩ := hq0
          refine hGq ?_
          clear hGq Gq
          rw [hrvl, List.take_of_length_le (Nat.le_refl _)] at b3 b4 b5
          generalize hcur : row.foldl stepPart (startOf here row) = cur at b3 b4 b5
          replace F5 : Fr g L' h2 _ := F5
          replace N5 : News g L' h2 _ := N5
          have hcl := SA.length b3
          have hjw : (cur.map (·.length)).sum + cur.length ≤ 1048576 := by
            have := here_sum b4
            omega
          have hj := StrLaws.join_length_le (Str.ofString "/") cur
          have hjj : Txt.join (Str.ofString "/") cur = Str.join (Str.ofString "/") cur := beq_iff_eq.mp (join_plain_closes _ _)
          rw [← hjj, show (Str.ofString "/").length = 1 from rfl] at hj
          have hj2 : (Txt.join (Str.ofString "/") cur).length ≤ 1048576 := by omega
          clear hj hjj
          have htv9 : tv.length ≤ 40 := by omega
          replace b6 := neN b6
          replace b7 := neN b7
          clear hnx hst hne hI hpo hne0 hok hls ht hto hv hvs hll hil hr1 hrvl hho hhv hhvl hk hd hu hret
          (all_goals try walk_at "m_fold")
          k_steps
          with_reducible rename Fr _ _ _ _ => F7
          with_reducible rename News _ _ _ _ => N7
          have ew : walkStep (here, told) (0, row) = (cur, told ++ [.path (pathOf cur)]) := by
            unfold walkStep
            rw [if_pos rfl]
            show (List.foldl stepPart (startOf here row) row, _) = _
            rw [hcur]
          rw [ew]
          refine TurnEnd.goS [(T, W.listOf (tv ++ [Value.str (Str.ofString "/" ++ Txt.join (Str.ofString "/") cur) _]).toArray (n' + 1)), (H', W.listOf hv2'.toArray n2)] F7 N7 (by k_allIn) (ne2 hTI b7) ⟨H', T, hv2', _, n2, n' + 1, rfl, b6, b1, b2, b3, htv.snoc ⟨_, by rw [pathT]⟩, b4, ?_, ?_⟩
          · show cur.length ≤ _
            omega
          · rw [List.length_append, List.length_singleton]
            show told.length + 1 ≤ _
            omega
    · subst hk1
      have hr1 : 0 < row.length := List.length_pos_iff.mpr hne0
      have hsh := here_shaped hho
      have hll2 := last_len hho
      have htv9 : tv.length ≤ 40 := by omega
      clear hst hok hls ht hv hvs hll hr1 hret
      have hrl3' : row.length ≤ 3 := hrl3
      have ew : walkStep (here, told) (1, row) = (here, told ++ [.yes (fitsB row (lastOf here))]) := by
        unfold walkStep
        rw [if_neg (show ¬ ((1, row) : Int × List Str).1 = 0 from (by decide : ¬ (1 : Int) = 0))]
      rw [ew]
      rcases here with _ | ⟨h0, hr⟩
      · cases hhv
        have hn0 : (Str.ofString "").length ≤ 2 := by decide
        (all_goals try walk_at "m_fold")
        k_steps
        with_reducible rename Fr _ _ _ _ => F7
        with_reducible rename News _ _ _ _ => N7
        refine TurnEnd.goS [(T, W.listOf (tv ++ [_]).toArray (n' + 1)), (H, W.listOf ([] : List Value).toArray n)] F7 N7 (by k_allIn) (ne2 hTI hHI) ⟨H, T, [], _, n, n' + 1, rfl, hHT, e2, e3, .nil, htv.snoc rfl, hho, Nat.zero_le _, ?_⟩
        rw [List.length_append, List.length_singleton]
        exact Nat.succ_le_succ htl
      · have hlast : lastOf (h0 :: hr) = (h0 :: hr).getD ((h0 :: hr).length - 1) Str.empty := rfl
        rw [hlast] at hll2
        have hix : (-1 + ((h0 :: hr).length : Int)).toNat = (h0 :: hr).length - 1 := by rw [List.length_cons]; omega
        rw [← hix] at hll2
        rw [hlast, ← hix] at ew ⊢
        (all_goals try walk_at "m_fold")
        k_steps
        with_reducible rename Fr _ _ _ _ => F7
        with_reducible rename News _ _ _ _ => N7
        refine TurnEnd.goS [(T, W.listOf (tv ++ [_]).toArray (n' + 1)), (H, W.listOf hv'.toArray n)] F7 N7 (by k_allIn) (ne2 hTI hHI) ⟨H, T, hv', _, n, n' + 1, rfl, hHT, e2, e3, hhv, htv.snoc rfl, hho, Nat.le_trans hhl (by omega), ?_⟩
        rw [List.length_append, List.length_singleton]
        exact Nat.succ_le_succ htl
  · rintro m₁ news₁ h tk hq0 Fi Ni
    ((try dsimp only); (try walk_at "m_fold"))
    refine hide ?_
    intro Gq hGq
    obtain ⟨H, T, hv, tv, n, n', rfl, hHT, e2, e3, hhv, htv, hho, hhl, htl⟩ := hq0
    refine hGq ?_
    clear hGq Gq
    rw [hll, List.take_of_length_le (Nat.le_refl _)] at htv
    replace Fi : Fr g L' h _ := Fi
    replace Ni : News g L' h _ := Ni
    (all_goals try walk_at "m_fold")
    k_steps
    with_reducible rename Fr _ _ _ _ => F7
    with_reducible rename News _ _ _ _ => N7
    exact hret _ _ _ (fun b o e => Fr.keep F7 b o (hg ▸ e)) ⟨T, tv, rfl, News.isList N7 (by k_mem), htv.mono fun a b x => by cases b <;> exact x⟩

theorem fillit_MOrders : PySem.Challenge.rw_in0069_01 = PySem.Challenge.rw_in0069_01 ∧ hd.heap_39 = hd.heap_39 := by
  w_top off
  k_fill
  exact ⟨rfl, rfl⟩
def IntsAt (h : Heap) (v : Value) (ns : List Int) : Prop := ∃ l vs, v = .ref l ∧ h.IsList l vs.toArray ∧ IntsAre vs ns
/-- an order of the ledger -/
def OrdIn (news : List (Addr × Obj)) (v : Value) (o : Int × List Str) : Prop := ∃ a t r rv n, v = .ref a ∧ (a, tupObj #[.int o.1 t, .ref r]) ∈ news ∧ (r, W.listOf rv.toArray n) ∈ news ∧ StrsAre rv o.2
theorem OrdIn.at {h₀ h : Heap} {L : Addr} {news : List (Addr × Obj)} {v : Value} {o : Int × List Str} (x : OrdIn news v o) (N : News h₀ L h news) : OrdAt h v o :=
  let ⟨a, t, r, rv, n, e, h1, h2, h3⟩ := x; ⟨a, t, r, rv, e, N.isTup h1, News.isList N h2, h3⟩
theorem OrdIn.mono {news news' : List (Addr × Obj)} {v : Value} {o : Int × List Str} (x : OrdIn news v o) (k : ∀ p ∈ news, p ∈ news') : OrdIn news' v o :=
  let ⟨a, t, r, rv, n, e, h1, h2, h3⟩ := x; ⟨a, t, r, rv, n, e, k _ h1, k _ h2, h3⟩
/-- an order as the law makes them -/
def ordGood (o : Int × List Str) : Prop := ordOk o ∧ (o.1 = 0 → ∀ r, o.2 = Str.ofString "" :: r → ∃ r', r = Str.ofString "." :: r')
noncomputable def partsL : List Str := [Str.ofString "a", Str.ofString "b", Str.ofString "ab", Str.ofString "..", Str.ofString ".", Str.ofString ""]
noncomputable def piecesL : List Str := [Str.ofString "a", Str.ofString "b", Str.ofString "?", Str.ofString "*", Str.ofString "[ab]", Str.ofString "[!a]"]
theorem fm6 (a : Int) : 0 ≤ a.fmod 6 ∧ a.fmod 6 < 6 := ⟨Int.fmod_nonneg_of_pos _ (by decide), Int.fmod_lt_of_pos _ (by decide)⟩
theorem fm63 (a : Int) : a.fmod 6 < 2 ^ 63 := by have := (fm6 a).2; omega
theorem allLt_ne {d : Addr} {l : List (Addr × Obj)} (h : AllLt d l) : ∀ p ∈ l, p.1 ≠ d := by
  induction l with
  | nil => exact fun p hp => nomatch hp
  | cons q r ih =>
    obtain ⟨h1, h2⟩ := h
    intro p hp
    rcases List.mem_cons.mp hp with rfl | hp
    · exact Nat.ne_of_lt h1
    · exact ih h2 p hp
/-- the word between the turns -/
def OJ (O PC PA : Addr) (tvC tvA : List Value) (i : Nat) (m : Str → Option Value) (news : List (Addr × Obj)) : Prop :=
  ∃ own ov n os, news = (O, W.listOf ov.toArray n) :: (PC, W.listOf tvC.toArray 0) :: (PA, W.listOf tvA.toArray 0) :: own ∧ OwnOff own [O, PC, PA] ∧ All2 (OrdIn own) ov os ∧ (∀ o ∈ os, ordGood o) ∧ os.length = i + 4 ∧
      m (Str.ofString "parts") = some (.ref PA) ∧ m (Str.ofString "pieces") = some (.ref PC) ∧ m (Str.ofString "orders") = some (.ref O)
abbrev Over (I O PC PA T : Addr) : Prop := @LT.lt Nat _ I T ∧ @LT.lt Nat _ O T ∧ @LT.lt Nat _ PC T ∧ @LT.lt Nat _ PA T
theorem OJ_end {Q : Flow → Shared → Prop} {h₀ h' : Heap} {L I O PC PA T R : Addr} {oI : Obj} {s₁ : Shared} {tk : Nat} {m : Str → Option Value} {led own : List (Addr × Obj)} {tvC tvA ov rv : List Value} {n nR i : Nat} {os : List (Int × List Str)} {k : Int} {t : Tok} {row : List Str}
    (F : Fr h₀ L h' m) (N : News h₀ L h' led) (hoff : OwnOff own [I, O, PC, PA]) (hOI : O ≠ I) (hCI : PC ≠ I) (hAI : PA ≠ I) (hT : Over I O PC PA T) (hR : Over I O PC PA R)
    (hov : All2 (OrdIn own) ov os) (hos : ∀ o ∈ os, ordGood o) (hol : os.length = i + 4) (hrv : StrsAre rv row) (hg : ordGood (k, row))
    (eA : m (Str.ofString "parts") = some (.ref PA)) (eC : m (Str.ofString "pieces") = some (.ref PC)) (eO : m (Str.ofString "orders") = some (.ref O))
    (hs : ∀ p ∈ (I, oI) :: (O, W.listOf (ov ++ [Value.ref T]).toArray (n + 1)) :: (PC, W.listOf tvC.toArray 0) :: (PA, W.listOf tvA.toArray 0) :: (T, tupObj #[.int k t, .ref R]) :: (R, W.listOf rv.toArray nR) :: own, p ∈ led) :
    TurnEnd h₀ L I oI (OJ O PC PA tvC tvA (i + 1)) Q s₁ .next { s₁ with heap := h', toks := tk } := by
  obtain ⟨t1, t2, t3, t4⟩ := hT
  obtain ⟨r1, r2, r3, r4⟩ := hR
  refine TurnEnd.goS _ F N hs ?_ ⟨(T, tupObj #[Value.int k t, Value.ref R]) :: (R, W.listOf rv.toArray nR) :: own, ov ++ [Value.ref T], n + 1, os ++ [(k, row)], rfl, ?_, ?_, ?_, ?_, eA, eC, eO⟩
  · refine List.forall_mem_cons.mpr ⟨hOI, List.forall_mem_cons.mpr ⟨hCI, List.forall_mem_cons.mpr ⟨hAI, List.forall_mem_cons.mpr ⟨Nat.ne_of_gt t1, List.forall_mem_cons.mpr ⟨Nat.ne_of_gt r1, fun p hp => hoff p hp I (.head _)⟩⟩⟩⟩⟩
  · intro p hp b hb
    rcases List.mem_cons.mp hp with rfl | hp
    · simp only [List.mem_cons, List.mem_nil_iff, or_false] at hb
      rcases hb with rfl | rfl | rfl
      · exact Nat.ne_of_gt t2
      · exact Nat.ne_of_gt t3
      · exact Nat.ne_of_gt t4
    · rcases List.mem_cons.mp hp with rfl | hp
      · simp only [List.mem_cons, List.mem_nil_iff, or_false] at hb
        rcases hb with rfl | rfl | rfl
        · exact Nat.ne_of_gt r2
        · exact Nat.ne_of_gt r3
        · exact Nat.ne_of_gt r4
      · exact hoff p hp b (.tail _ hb)
  · exact (hov.mono fun _ _ x => x.mono fun p hp => .tail _ (.tail _ hp)).snoc ⟨T, t, R, rv, nR, rfl, .head _, .tail _ (.head _), hrv⟩
  · intro o ho
    rcases List.mem_append.mp ho with ho | ho
    · exact hos o ho
    · rw [List.mem_singleton.mp ho]; exact hg
  · rw [List.length_append, hol]; rfl
theorem good1 {rs : List Str} (h : ∀ p ∈ rs, partOk p) (h1 : 1 ≤ rs.length) (h3 : rs.length ≤ 3) : ordGood (0, [Str.ofString "", Str.ofString "."] ++ rs ++ [Str.ofString ""]) := by
  refine ⟨.inl ⟨rfl, by simp, ?_, ?_⟩, fun _ r hr => ⟨rs ++ [Str.ofString ""], (List.cons.inj hr).2.symm⟩⟩
  · simp only [List.length_append, List.length_cons, List.length_nil]; omega
  · intro p hp
    simp only [List.mem_append, List.mem_cons, List.mem_nil_iff, or_false] at hp
    rcases hp with ((rfl | rfl) | hp) | rfl
    · exact .inl rfl
    · exact .inr (.inl rfl)
    · exact h p hp
    · exact .inl rfl
theorem good2 {rs : List Str} (h : ∀ p ∈ rs, partOk p) (h1 : 1 ≤ rs.length) (h3 : rs.length ≤ 3) : ordGood (0, [Str.ofString "."] ++ rs ++ [Str.ofString ""]) := by
  refine ⟨.inl ⟨rfl, by simp, ?_, ?_⟩, fun _ r hr => absurd (List.cons.inj hr).1 (by decide)⟩
  · simp only [List.length_append, List.length_cons, List.length_nil]; omega
  · intro p hp
    simp only [List.mem_append, List.mem_cons, List.mem_nil_iff, or_false] at hp
    rcases hp with (rfl | hp) | rfl
    · exact .inr (.inl rfl)
    · exact h p hp
    · exact .inl rfl
theorem good3 {rs : List Str} (h : ∀ p ∈ rs, pieceOk p) (h1 : 1 ≤ rs.length) (h3 : rs.length ≤ 3) : ordGood (1, rs) :=
  ⟨.inr ⟨rfl, fun (e : rs = []) => by rw [e] at h1; exact absurd h1 (by decide), h3, h⟩, fun (e : (1 : Int) = 0) => absurd e (by decide)⟩
theorem pow_step {v : Int} {k : Nat} (hk : k ≤ 2) (h0 : 0 ≤ v) (h1 : v < 6 ^ (k + 1)) (h2 : 0 < v / 6) : ∃ j, k = j + 1 ∧ v / 6 < 6 ^ (j + 1) := by
  obtain rfl | rfl | rfl : k = 0 ∨ k = 1 ∨ k = 2 := by omega
  · rw [show (6 : Int) ^ (0 + 1) = 6 from rfl] at h1; omega
  · rw [show (6 : Int) ^ (1 + 1) = 36 from rfl] at h1
    exact ⟨0, rfl, by rw [show (6 : Int) ^ (0 + 1) = 6 from rfl]; omega⟩
  · rw [show (6 : Int) ^ (2 + 1) = 216 from rfl] at h1
    exact ⟨1, rfl, by rw [show (6 : Int) ^ (1 + 1) = 36 from rfl]; omega⟩
theorem offCons {d : Addr} {l : List (Addr × Obj)} {as : List Addr} (h : ∀ p ∈ l, p.1 ≠ d) (k : OwnOff l as) : OwnOff l (d :: as) := fun p hp b hb => by
  rcases List.mem_cons.mp hb with rfl | hb
  · exact h p hp
  · exact k p hp b hb
theorem getD_all {P : Str → Prop} {l : List Str} (h : ∀ p ∈ l, P p) (h0 : P Str.empty) (k : Nat) : P (l.getD k Str.empty) := by
  rw [List.getD_eq_getElem?_getD]
  cases e : l[k]? with
  | none => exact h0
  | some c => exact h c (List.mem_of_getElem? e)
theorem getD_lt {P : Str → Prop} {l : List Str} (h : ∀ p ∈ l, P p) {k : Nat} (hk : k < l.length) : P (l.getD k Str.empty) := by
  rw [List.getD_eq_getElem?_getD, List.getElem?_eq_getElem hk]
  exact h _ (List.getElem_mem hk)
theorem own8 {h₀ h : Heap} {L : Addr} {x0 x1 x2 x3 x4 x5 x6 x7 x8 x9 x10 : Addr × Obj} (N : News h₀ L h [x0, x1, x2, x3, x4, x5, x6, x7, x8, x9, x10]) : ∃ own, own = [x1, x2, x3, x4, x5, x6, x7, x8] ∧ News h₀ L h (x0 :: x9 :: x10 :: own) :=
  ⟨_, rfl, fun p hp => N p (by revert p; k_allIn)⟩
noncomputable def base4 : List (Int × List Str) := [(0, [Str.ofString "ab"]), (1, [Str.ofString "a", Str.ofString "*"]), (0, [Str.ofString ".", Str.ofString "..", Str.ofString "b", Str.ofString ""]), (1, [Str.ofString "?"])]


example : True := by
  k_with_none
  k_with "my m_enter" => ((refine' enter0 ?k1 ?k2 ?k3 ?k5 ?kA ?kF ?kK ?k6 ?k7 ?k8 ?k9 ?kB ?_ ?c2 ?c3 ?c4 ?c5; (case kA => exact rfl); (case kF => exact rfl); (case kK => assumption); (case k1 => k_asm); (case k2 => k_asm); (case k3 => k_asm); (case k5 => k_asm); (case k6 => k_is); (case k7 => k_is); (case k8 => ktr_room); (case k9 => exact BindsTo.of_eq rfl); (case c5 => decide); (case kB => exact locs rfl); (case c2 => exact rfl); (case c3 => exact rfl); (case c4 => exact rfl); k_whole))
  k_with "my call builtin:issubclass" => ((k_here; (with_reducible show wpAny _ _ (call _ [Value.type _, Value.ref _]) _ _ _); k_dflt (refine' call_iss ?k1 ?_; (case k1 => exact News.get (by k_asm) (by k_mem)))))
  k_with "my m_start" => ((refine wpAny_call ?_; k_dflt (walk_at "m_enter")))
  k_with "my m_use" => (((case kB => k_asm); (case kF => k_asm); (case kX => k_asm); (case kN => k_asm); (case kT => k_asm); (case kK => first | exact rfl | assumption); (case kD => ktr_room); (case kU => ktr_units)))
  k_with "my exec For Name Name cons nil" => ((k_here; refine Stop.out ?_))
  k_with "my exec For Tuple Name cons nil" => ((k_here; refine Stop.out ?_))
  k_with "my eval ListComp Call cons" => ((k_here; refine Stop.out ?_))
  k_with "my eval ListComp Name cons" => ((k_here; refine Stop.out ?_))
  k_with "my eval ListComp BinOp cons" => ((k_here; refine Stop.out ?_))
  k_with "my eval ListComp Tuple cons" => ((k_here; refine Stop.out ?_))
  k_with "my m_loc" => (first
  | exact rfl
  | with_reducible assumption
  | (refine Eq.trans (if_neg (by decide)) ?_; walk_at "m_loc")
  | ((with_reducible rename (∀ y : PySem.Str, y ≠ _ → _ = _) => hm9); refine Eq.trans (hm9 _ (by decide)) ?_; walk_at "m_loc"))
  k_with "my eval Name" => (((k_here; (with_reducible rename Fr _ _ _ _ => kF); k_dflt (refine' ld kF ?k2 ?_; (case k2 => walk_at "m_loc"); k_whole); (try dsimp only)); (try walk_at "m_hF")))
  k_with "my truthy ref" => ((k_here; (with_reducible show wpAny _ _ (truthy (Value.ref _)) _ _ _); k_dflt (refine' kgr_truthy ?N ?hm ?hc ?hd ?hf ?_; (case N => k_asm); (case hm => k_mem); (case hc => exact rfl); (case hd => exact rfl); (case hf => ((try simp only [strValues_length, List.length_append, List.length_cons, List.length_nil]); omega)); k_whole; (simp only [snoc_isEmpty, List.isEmpty_nil, Bool.not_true, Bool.not_false]))))
  k_with "my call builtin:list.append" => ((k_here; (with_reducible show wpAny _ _ (call (Value.builtin _) [Value.ref _, _]) _ _ _); k_dflt (refine' my_append ?F ?N ?U ?z ?_; (case F => k_asm); (case N => k_asm); (case U => k_upd); (case z => (rw [PySem.sizeLine_eq]; (try simp only [strValues_length, List.length_append, List.length_cons, List.length_nil]); omega)); k_whole; intro _ _ _; (try k_sweep))))
  k_with "my call builtin:list.pop" => ((k_here; (with_reducible show wpAny _ _ (call (Value.builtin _) [Value.ref _]) _ _ _); k_dflt (refine' my_pop ?F ?N ?U ?z ?_; (case F => k_asm); (case N => k_asm); (case U => k_upd); (case z => (rw [PySem.sizeLine_eq]; (try simp only [strValues_length, List.length_append, List.length_cons, List.length_nil]); omega)); k_whole; intro _ _ _; (try k_sweep))))
  k_with "my subscriptTail Name UnaryOp ref int" => ((k_here; (with_reducible show wpAny _ _ (subscriptTail _ _ (Value.ref _) (Value.int _ _)) _ _ _); k_dflt (refine' my_last ?N ?hm ?_; (case N => k_asm); (case hm => k_mem); k_whole)))
  k_with "my call builtin:str.join" => ((k_here; (with_reducible show wpAny _ _ (call (Value.builtin _) [Value.str _ _, Value.ref _]) _ _ _); k_dflt (refine' join_list (News.isList ?N ?hm) ?S ?ok ?_; (case N => k_asm); (case hm => k_mem); (case S => with_reducible assumption); (case ok => ((simp only [show (Str.ofString "/").length = 1 from rfl, show (Str.ofString "").length = 0 from rfl]); omega)); k_whole; intro _ _)))
  k_with "my binaryOp Add str str" => ((k_here; (with_reducible show wpAny _ _ (binaryOp Operator.Add (Value.str _ _) (Value.str _ _)) _ _ _); k_dflt (refine' SBL.add (hsz := ?z) ?_; (case z => (rw [PySem.sizeLine_eq]; (try simp only [show (Str.ofString "/").length = 1 from rfl]); omega)); k_whole; intro _ _)))
  k_with "my truthy str" => ((k_here; (with_reducible show wpAny _ _ (PySem.truthy (Value.str _ _)) _ _ _); k_dflt (refine' KXt.truthy_pos (K := 16777216) ?za ?zb (Nat.le_refl _) ?_; (case za => omega); (case zb => omega); k_whole; intro _)))
  k_with "my eval Name" => (((k_here; (with_reducible rename NsObj _ _ => nX9); k_dflt (refine' ldVarK (NsObj.ns nX9 (News.get ?N ?hm)) ?hv ?_; (case N => k_asm); (case hm => k_mem); (case hv => with_reducible assumption); k_whole)); (try walk_at "m_hX")))
  k_with "my call builtin:str.join" => ((k_here; (with_reducible show wpAny _ _ (call (Value.builtin _) [Value.str _ _, Value.ref _]) _ _ _); k_dflt (refine' join_list ?hl ?S ?ok ?_; (case hl => exact Heap.IsList.at (by with_reducible assumption) (Fr.keep (by k_asm) _)); (case S => with_reducible assumption); (case ok => ((simp only [show (Str.ofString "/").length = 1 from rfl, show (Str.ofString "").length = 0 from rfl]); omega)); k_whole; intro _ _)))
  k_with "my eval Name" => (((k_here; (with_reducible rename Fr _ _ _ _ => kF); (with_reducible rename NsObj _ _ => nX9); k_dflt (refine' nameG_B kF ?k1 ?k2 ?k3 ?k4 ?k5 ?_ ?k6 ?k7 ?k8 ?k9 ?k10; (case k1 => k_asm); (case k2 => k_asm); (case k3 => k_is); (case k4 => boot_by_name); (case k5 => decide); (case k6 => exact rfl); (case k7 => exact rfl); (case k8 => exact rfl); (case k9 => exact rfl); (case k10 => decide); k_whole)); (try walk_at "m_hF"); (try walk_at "m_hX")))
  k_with "my binaryOp Add ref ref" => ((k_here; (with_reducible show wpAny _ _ (binaryOp Operator.Add (Value.ref _) (Value.ref _)) _ _ _); k_dflt (refine' add_lists ?F ?N (News.isList ?N1 ?m1) (News.isList ?N2 ?m2) ?_ ?z; (case F => k_asm); (case N => k_asm); (case N1 => k_asm); (case m1 => k_mem); (case N2 => k_asm); (case m2 => k_mem); (case z => (rw [PySem.sizeLine_eq]; (try simp only [List.length_append, List.length_cons, List.length_nil]); omega)); k_whole; intro _ _ _; (try k_sweep))))
  k_with "my call builtin:len" => ((k_here; (with_reducible show wpAny _ _ (call _ [Value.ref _]) _ _ _); k_dflt (refine' len_list ?hl ?hf ?_; (case hl => exact Heap.IsList.at (by with_reducible assumption) (Fr.keep (by k_asm) _)); (case hf => ((simp only [List.size_toArray]); omega)); k_whole; (try simp only [List.size_toArray]))))
  k_with "my call type:bytes" => ((k_here; (with_reducible show wpAny _ _ (call (Value.type _) [Value.ref _]) _ _ _); k_dflt (refine' bytes_K ?F ?N (News.isList ?N1 ?m1) ?i ?r ?z ?h ?_; (case F => k_asm); (case N => k_asm); (case N1 => k_asm); (case m1 => k_mem); (case i => with_reducible assumption); (case r => with_reducible assumption); (case z => (rw [PySem.sizeLine_eq]; omega)); (case h => exact rfl); k_whole; intro _ _ _ _ _ _; (try k_sweep))))
  k_with "my exec While Compare cons nil" => ((k_here; refine Stop.out ?_))
  k_with "my call builtin:list.append" => ((k_here; (with_reducible show wpAny _ _ (call (Value.builtin _) [Value.ref _, _]) _ _ _); k_dflt (refine' my_append2 ?F ?N ?hm ?U ?z ?_; (case F => k_asm); (case N => k_asm); (case hm => k_mem); (case U => k_upd); (case z => (rw [PySem.sizeLine_eq]; omega)); k_whole; intro _ _ _; (try k_sweep))))
  k_with "my binaryOp Add ref ref" => ((k_here; (with_reducible show wpAny _ _ (binaryOp Operator.Add (Value.ref _) (Value.ref _)) _ _ _); k_dflt (refine' my_add ?F ?N (News.isList ?N1 ?m1) (News.isList ?N2 ?m2) ?_ ?z; (case F => k_asm); (case N => k_asm); (case N1 => k_asm); (case m1 => k_mem); (case N2 => k_asm); (case m2 => k_mem); (case z => (rw [PySem.sizeLine_eq]; (try simp only [List.length_append, List.length_cons, List.length_nil]); omega)); k_whole; walk_at "m_i5")))
  k_with "my subscriptTail IfExp" => ((k_here; (with_reducible show wpAny _ _ (subscriptTail _ _ (Value.ref _) (Value.int _ _)) _ _ _); k_dflt (refine' item_strsR ?l ?i (fm6 _).1 ?z2 (fm63 _) ?_ ?s; (case l => exact News.isList (by k_asm) (by k_mem)); (case i => with_reducible assumption); (case z2 => exact Int.lt_of_lt_of_le (fm6 _).2 (by decide)); (case s => with_unfolding_all rfl); k_whole; intro _)))
  k_with "my eval Name" => (k_here; dsimp only)
  k_with "my eval Constant int" => (k_here; dsimp only)
  k_with "my eval Constant str" => (k_here; dsimp only)
  k_with "my m_fold" => (((first | (with_reducible show wpAny _ _ (PySem.execs _ _) _ _ _) | (with_reducible show wpAny _ _ (PySem.exec _ _) _ _ _)); (first | ((fail_if_success (have := qk0)); k_fold; (rename PySem.Flow → PySem.Shared → Prop => qk0); (rename PySem.Value → PySem.Shared → Prop => ek0)) | ((fail_if_success (have := qk1)); k_fold; (rename PySem.Flow → PySem.Shared → Prop => qk1); (rename PySem.Value → PySem.Shared → Prop => ek1)) | ((fail_if_success (have := qk2)); k_fold; (rename PySem.Flow → PySem.Shared → Prop => qk2); (rename PySem.Value → PySem.Shared → Prop => ek2)) | ((fail_if_success (have := qk3)); k_fold; (rename PySem.Flow → PySem.Shared → Prop => qk3); (rename PySem.Value → PySem.Shared → Prop => ek3)) | ((fail_if_success (have := qk4)); k_fold; (rename PySem.Flow → PySem.Shared → Prop => qk4); (rename PySem.Value → PySem.Shared → Prop => ek4)) | ((fail_if_success (have := qk5)); k_fold; (rename PySem.Flow → PySem.Shared → Prop => qk5); (rename PySem.Value → PySem.Shared → Prop => ek5)) | ((fail_if_success (have := qk6)); k_fold; (rename PySem.Flow → PySem.Shared → Prop => qk6); (rename PySem.Value → PySem.Shared → Prop => ek6)) | ((fail_if_success (have := qk7)); k_fold; (rename PySem.Flow → PySem.Shared → Prop => qk7); (rename PySem.Value → PySem.Shared → Prop => ek7)) | ((fail_if_success (have := qk8)); k_fold; (rename PySem.Flow → PySem.Shared → Prop => qk8); (rename PySem.Value → PySem.Shared → Prop => ek8)) | ((fail_if_success (have := qk9)); k_fold; (rename PySem.Flow → PySem.Shared → Prop => qk9); (rename PySem.Value → PySem.Shared → Prop => ek9)) | ((fail_if_success (have := qk10)); k_fold; (rename PySem.Flow → PySem.Shared → Prop => qk10); (rename PySem.Value → PySem.Shared → Prop => ek10)) | ((fail_if_success (have := qk11)); k_fold; (rename PySem.Flow → PySem.Shared → Prop => qk11); (rename PySem.Value → PySem.Shared → Prop => ek11)) | ((fail_if_success (have := qk12)); k_fold; (rename PySem.Flow → PySem.Shared → Prop => qk12); (rename PySem.Value → PySem.Shared → Prop => ek12)) | ((fail_if_success (have := qk13)); k_fold; (rename PySem.Flow → PySem.Shared → Prop => qk13); (rename PySem.Value → PySem.Shared → Prop => ek13)) | ((fail_if_success (have := qk14)); k_fold; (rename PySem.Flow → PySem.Shared → Prop => qk14); (rename PySem.Value → PySem.Shared → Prop => ek14)) | ((fail_if_success (have := qk15)); k_fold; (rename PySem.Flow → PySem.Shared → Prop => qk15); (rename PySem.Value → PySem.Shared → Prop => ek15)))))
  k_with "my m_tidy" => (((try clear qk15); (try clear ek15)); ((try clear qk14); (try clear ek14)); ((try clear qk13); (try clear ek13)); ((try clear qk12); (try clear ek12)); ((try clear qk11); (try clear ek11)); ((try clear qk10); (try clear ek10)); ((try clear qk9); (try clear ek9)); ((try clear qk8); (try clear ek8)); ((try clear qk7); (try clear ek7)); ((try clear qk6); (try clear ek6)); ((try clear qk5); (try clear ek5)); ((try clear qk4); (try clear ek4)); ((try clear qk3); (try clear ek3)); ((try clear qk2); (try clear ek2)); ((try clear qk1); (try clear ek1)); ((try clear qk0); (try clear ek0)))
  k_with "my execs cons" => (first | (k_here; k_gentoks) | (k_here; walk_at "m_fold") | (k_here; walk_at "m_tidy"; (with_reducible refine wpAny_execs_cons ?_); (try dsimp only); (try walk_at "m_fold")))
  trivial


set_option maxHeartbeats 8000000 in
theorem orders_spec (w : World) (l : Addr) (ns : List Int) (hln : ns.length ≤ 7) :
    Spec0 w 198 12 80 (fun h => IntsAt h (.ref l) ns) [.ref l] (fun h v => ∃ os, ListAt h OrdAt v os ∧ (∀ o ∈ os, ordGood o) ∧ 4 ≤ os.length ∧ os.length ≤ 11) := by
  intro p loose mean mg mb dp un gd cn cs a ccd cl outer A₀ base h₀ L m s Q E B F X T hk hd hu hpre hret
  walk_at "m_start"
  intro g L' h₁ hg F' N' B' X' T'
  (try dsimp only)
  replace F' : Fr g L' h₁ (fun y => List.lookup y [(Str.ofString "numbers", .ref l)]) := F'
  rw [hg] at hpre
  clear B F X T
  refine hide ?_
  intro Gq hGq
  obtain ⟨_, vs, hl, hls, hvs⟩ := hpre
  refine hGq ?_
  clear hGq Gq
  cases hl
  have hll := hvs.length
  try k_fold
  (all_goals try walk_at "m_fold")
  k_steps
  with_reducible rename Fr _ _ _ _ => F1
  with_reducible rename News _ _ _ _ => N1
  rename_i PA h13 q10 h12 tk1 PC h11 q9 h10 tk0 r1 h9 q8 o1 h8 q7 r2 h7 q6 o2 h6 q5 r3 h5 q4 o3 h4 q3 r4 h3 q2 o4 h2 q1 O hx q0 hE
  obtain ⟨own, hown, N1⟩ := own8 N1
  refine hide ?_
  intro Gq hGq
  obtain ⟨m0, ov, tvA, tvC, F1, N1, hov, hoff, sA, sC, eN, eA, eC, eO⟩ : ∃ (m0 : Str → Option Value) (ov tvA tvC : List Value), Fr g L' hE m0 ∧ News g L' hE ((O, W.listOf ov.toArray 0) :: (PC, W.listOf tvC.toArray 0) :: (PA, W.listOf tvA.toArray 0) :: own) ∧
      All2 (OrdIn own) ov base4 ∧ OwnOff own [O, PC, PA] ∧ StrsAre tvA partsL ∧ StrsAre tvC piecesL ∧ m0 (Str.ofString "numbers") = some (.ref l) ∧ m0 (Str.ofString "parts") = some (.ref PA) ∧ m0 (Str.ofString "pieces") = some (.ref PC) ∧ m0 (Str.ofString "orders") = some (.ref O) := by
    refine ⟨_, [_, _, _, _], [_, _, _, _, _, _], [_, _, _, _, _, _], F1, N1, ?_, ?_, .cons _ _ (.cons _ _ (.cons _ _ (.cons _ _ (.cons _ _ (.cons _ _ .nil))))), .cons _ _ (.cons _ _ (.cons _ _ (.cons _ _ (.cons _ _ (.cons _ _ .nil))))), rfl, rfl, rfl, rfl⟩
    · rw [hown]
      refine .cons ⟨_, _, _, [_], _, rfl, by k_mem, by k_mem, .cons _ _ .nil⟩ (.cons ⟨_, _, _, [_, _], _, rfl, by k_mem, by k_mem, .cons _ _ (.cons _ _ .nil)⟩ (.cons ⟨_, _, _, [_, _, _, _], _, rfl, by k_mem, by k_mem, .cons _ _ (.cons _ _ (.cons _ _ (.cons _ _ .nil)))⟩ (.cons ⟨_, _, _, [_], _, rfl, by k_mem, by k_mem, .cons _ _ .nil⟩ .nil)))
    · rw [hown]
      intro p hp b hb
      simp only [List.mem_cons, List.mem_nil_iff, or_false] at hp hb
      rcases hb with rfl | rfl | rfl <;> rcases hp with rfl | rfl | rfl | rfl | rfl | rfl | rfl | rfl <;> k_ne
  refine hGq ?_
  clear hGq Gq
  have hOC : @Ne Nat O PC := by omega
  have hOA : @Ne Nat O PA := by omega
  have hCA : @Ne Nat PC PA := by omega
  have hp1 : ∀ p ∈ partsL, partOk p := by
    intro p hp
    simp only [partsL, List.mem_cons, List.mem_nil_iff, or_false] at hp
    rcases hp with rfl | rfl | rfl | rfl | rfl | rfl <;> simp [partOk]
  have hp2 : ∀ p ∈ piecesL, pieceOk p := by
    intro p hp
    simp only [piecesL, List.mem_cons, List.mem_nil_iff, or_false] at hp
    rcases hp with rfl | rfl | rfl | rfl | rfl | rfl <;> simp [pieceOk]
  have hb4 : ∀ o ∈ base4, ordGood o := by
    intro o ho
    simp only [base4, List.mem_cons, List.mem_nil_iff, or_false] at ho
    rcases ho with rfl | rfl | rfl | rfl
    · refine ⟨.inl ⟨rfl, by simp, by simp, by simp [partOk]⟩, fun _ r hr => ?_⟩
      exact absurd (List.cons.inj hr).1 (by decide)
    · exact ⟨.inr ⟨rfl, by simp, by simp, by simp [pieceOk]⟩, fun h => absurd h (by decide)⟩
    · refine ⟨.inl ⟨rfl, by simp, by simp, by simp [partOk]⟩, fun _ r hr => ?_⟩
      exact absurd (List.cons.inj hr).1 (by decide)
    · exact ⟨.inr ⟨rfl, by simp, by simp, by simp [pieceOk]⟩, fun h => absurd h (by decide)⟩
  clear hown q0 q1 q2 q3 q4 q5 q6 q7 q8 q9 q10
  refine Stop.go (wpAny_For (ld F1 eN ?_))
  refine iter_list (OJ O PC PA tvC tvA)
    rfl (hls.at (F1.keep _)) F1 N1 ⟨own, ov, 0, base4, rfl, hoff, hov, hb4, rfl, eA, eC, eO⟩ ?_ ?_ ?_
  · intro i m₁ news₁ h _ Fi _
    exact hls.at (Fi.keep _)
  · clear hov hoff eN eA eC eO N1 F1
    rintro i v m₁ news₁ h tk I oI hv hq0 hI hne hLI Fi Ni
    ((try dsimp only); (try walk_at "m_fold"))
    refine hide ?_
    intro Gq hGq
    obtain ⟨own, ov, n, os, rfl, hoff, hov, hos, hol, eA, eC, eO⟩ := hq0
    refine hGq ?_
    clear hGq Gq
    refine hide ?_
    intro Gq hGq
    obtain ⟨x, tx, rfl, hnx⟩ := IntsAre.at hvs _ _ hv
    refine hGq ?_
    clear hGq Gq
    have hil : i < ns.length := (List.getElem?_eq_some_iff.mp hnx).1
    have hovl := hov.length
    have hoff2 : OwnOff own [I, O, PC, PA] := fun p hp b hb => by
      rcases List.mem_cons.mp hb with rfl | hb
      · exact hne _ (.tail _ (.tail _ (.tail _ hp)))
      · exact hoff p hp b hb
    have hOI : @Ne Nat O I := hne _ (.head _)
    have hCI : @Ne Nat PC I := hne _ (.tail _ (.head _))
    have hAI : @Ne Nat PA I := hne _ (.tail _ (.tail _ (.head _)))
    clear hv hI hne hoff hvs hls hnx hret
    replace Fi : Fr g L' h _ := Fi
    replace Ni : News g L' h _ := Ni
    by_cases hx2 : x.fmod 2 = 0
    · (all_goals try walk_at "m_fold")
      k_steps
      all_goals first | exact absurd hx2 (by assumption) | skip
      rename_i u1 tk9 u2 tk8 h8' tk7 ha1 h7' ha2 t9 R h6' lR h5' F2 N2
      generalize hhalf : (if x.fdiv 2 < 0 then -x.fdiv 2 else x.fdiv 2) = half at F2 N2
      have hv0 : 0 ≤ (half.fdiv 2).fmod 216 ∧ (half.fdiv 2).fmod 216 < 216 := ⟨Int.fmod_nonneg_of_pos _ (by decide), Int.fmod_lt_of_pos _ (by decide)⟩
      generalize hv : (half.fdiv 2).fmod 216 = v at F2 N2 hv0
      refine hide ?_
      intro Gq hGq
      obtain ⟨m2, tl, th, F2, m2a, m2b, m2c, m2d, m2e, m2f, m2g⟩ : ∃ (m2 : Str → Option Value) (tl th : Tok), Fr g L' h5' m2 ∧ m2 (Str.ofString "left") = some (.int v tl) ∧ m2 (Str.ofString "half") = some (.int half th) ∧ m2 (Str.ofString "x") = some (.int x tx) ∧ m2 (Str.ofString "row") = some (.ref R) ∧
          m2 (Str.ofString "parts") = some (.ref PA) ∧ m2 (Str.ofString "pieces") = some (.ref PC) ∧ m2 (Str.ofString "orders") = some (.ref O) := ⟨_, _, _, F2, rfl, rfl, rfl, rfl, eA, eC, eO⟩
      refine hGq ?_
      clear hGq Gq
      have hoff3 : OwnOff own [R, I, O, PC, PA] := offCons (allLt_ne lR.2.2.2.2) hoff2
      have hget : ∀ k : Nat, partOk (partsL.getD k Str.empty) := fun k => getD_all hp1 (.inl rfl) k
      clear hoff2 ha1 ha2 hhalf hv
      refine Stop.go (while_my 2 (fun k m news => ∃ (rv : List Value) (rs : List Str) (n' : Nat) (v : Int) (t : Tok), news = (R, W.listOf rv.toArray n') :: (I, oI) :: (O, W.listOf ov.toArray n) :: (PC, W.listOf tvC.toArray 0) :: (PA, W.listOf tvA.toArray 0) :: own ∧
          StrsAre rv rs ∧ (∀ p ∈ rs, partOk p) ∧ 1 ≤ rs.length ∧ rs.length + k = 3 ∧ 0 ≤ v ∧ v < 6 ^ (k + 1) ∧ m (Str.ofString "left") = some (.int v t) ∧ m (Str.ofString "half") = some (.int half th) ∧ m (Str.ofString "x") = some (.int x tx) ∧ m (Str.ofString "row") = some (.ref R) ∧
          m (Str.ofString "parts") = some (.ref PA) ∧ m (Str.ofString "pieces") = some (.ref PC) ∧ m (Str.ofString "orders") = some (.ref O)) F2 N2
          ⟨[_], _, 0, v, tl, rfl, .cons _ _ .nil, (fun p hp => by rw [List.mem_singleton.mp hp]; exact hget _), Nat.le_refl _, rfl, hv0.1, hv0.2, m2a, m2b, m2c, m2d, m2e, m2f, m2g⟩ ?_)
      clear F2 N2 hv0 m2a m2b m2c m2d m2e m2f m2g eA eC eO
      rintro k m3 news3 h3' tk3 hq0 F3 N3
      ((try dsimp only); (try walk_at "m_fold"))
      refine hide ?_
      intro Gq hGq
      obtain ⟨rv, rs, n', v, t, rfl, hrv, hrs, hr1, hrk, hv1, hv2, m3a, m3b, m3c, m3d, m3e, m3f, m3g⟩ := hq0
      refine hGq ?_
      clear hGq Gq
      have hrl := SA.length hrv
      have hfd : v.fdiv 6 = v / 6 := Int.fdiv_eq_ediv_of_nonneg _ (by decide)
      replace F3 : Fr g L' h3' _ := F3
      replace N3 : News g L' h3' _ := N3
      (all_goals try walk_at "m_fold")
      k_steps
      all_goals first | exact absurd hx2 (by assumption) | skip
      · rename_i hgt tkA hA' _ hxA tA hB' FA NA
        rw [hfd] at hgt
        obtain ⟨j, rfl, hj⟩ := pow_step (by omega) hv1 hv2 hgt
        refine WhileEnd.go j _ FA NA (Nat.lt_succ_self _) (fun p hp => hp) ⟨rv ++ [_], rs ++ [_], n' + 1, v.fdiv 6, _, rfl, SA.snoc hrv _ _, ?_, ?_, ?_, ?_, ?_, rfl, m3b, m3c, m3d, m3e, m3f, m3g⟩
        · intro p hp
          rcases List.mem_append.mp hp with hp | hp
          · exact hrs p hp
          · rw [List.mem_singleton.mp hp]; exact hget _
        · rw [List.length_append]; omega
        · rw [List.length_append, List.length_singleton]; omega
        · rw [hfd]; omega
        · rw [hfd]; exact hj
      · with_reducible rename Fr _ _ _ _ => FA
        with_reducible rename News _ _ _ _ => NA
        refine' OJ_end FA NA (fun p hp b hb => hoff3 p hp b (.tail _ hb)) hOI hCI hAI ?hT ?hR hov hos hol (SA.snoc (SA.append (.cons (Str.ofString "") _ (.cons (Str.ofString ".") _ .nil)) hrv) (Str.ofString "") _) ?hg m3e m3f m3g ?hs
        case hs => exact (List.forall_mem_cons.mpr ⟨by k_mem, List.forall_mem_cons.mpr ⟨by k_mem, List.forall_mem_cons.mpr ⟨by k_mem, List.forall_mem_cons.mpr ⟨by k_mem, List.forall_mem_cons.mpr ⟨by k_mem, List.forall_mem_cons.mpr ⟨by k_mem, fun p hp => by k_ownIn⟩⟩⟩⟩⟩⟩)
        case hT => exact ⟨by omega, by omega, by omega, by omega⟩
        case hR => exact ⟨by omega, by omega, by omega, by omega⟩
        case hg => rw [hx2]; exact good1 hrs hr1 (by omega)
      · with_reducible rename Fr _ _ _ _ => FA
        with_reducible rename News _ _ _ _ => NA
        refine' OJ_end FA NA (fun p hp b hb => hoff3 p hp b (.tail _ hb)) hOI hCI hAI ?hT ?hR hov hos hol (SA.snoc (SA.append (.cons (Str.ofString ".") _ .nil) hrv) (Str.ofString "") _) ?hg m3e m3f m3g ?hs
        case hs => exact (List.forall_mem_cons.mpr ⟨by k_mem, List.forall_mem_cons.mpr ⟨by k_mem, List.forall_mem_cons.mpr ⟨by k_mem, List.forall_mem_cons.mpr ⟨by k_mem, List.forall_mem_cons.mpr ⟨by k_mem, List.forall_mem_cons.mpr ⟨by k_mem, fun p hp => by k_ownIn⟩⟩⟩⟩⟩⟩)
        case hT => exact ⟨by omega, by omega, by omega, by omega⟩
        case hR => exact ⟨by omega, by omega, by omega, by omega⟩
        case hg => rw [hx2]; exact good2 hrs hr1 (by omega)
    · (all_goals try walk_at "m_fold")
      k_steps
      all_goals first | exact absurd (by assumption : x.fmod 2 = 0) hx2 | skip
      rename_i u1 tk9 u2 tk8 h8' tk7 ha1 h7' ha2 t9 R h6' lR h5' F2 N2
      generalize hhalf : (if x.fdiv 2 < 0 then -x.fdiv 2 else x.fdiv 2) = half at F2 N2
      have hv0 : 0 ≤ half.fmod 216 ∧ half.fmod 216 < 216 := ⟨Int.fmod_nonneg_of_pos _ (by decide), Int.fmod_lt_of_pos _ (by decide)⟩
      generalize hv : half.fmod 216 = v at F2 N2 hv0
      refine hide ?_
      intro Gq hGq
      obtain ⟨m2, tl, th, F2, m2a, m2b, m2c, m2d, m2e, m2f, m2g⟩ : ∃ (m2 : Str → Option Value) (tl th : Tok), Fr g L' h5' m2 ∧ m2 (Str.ofString "left") = some (.int v tl) ∧ m2 (Str.ofString "half") = some (.int half th) ∧ m2 (Str.ofString "x") = some (.int x tx) ∧ m2 (Str.ofString "row") = some (.ref R) ∧
          m2 (Str.ofString "parts") = some (.ref PA) ∧ m2 (Str.ofString "pieces") = some (.ref PC) ∧ m2 (Str.ofString "orders") = some (.ref O) := ⟨_, _, _, F2, rfl, rfl, rfl, rfl, eA, eC, eO⟩
      refine hGq ?_
      clear hGq Gq
      have hoff3 : OwnOff own [R, I, O, PC, PA] := offCons (allLt_ne lR.2.2.2.2) hoff2
      have hget : ∀ k : Nat, k < 6 → pieceOk (piecesL.getD k Str.empty) := fun k hk => getD_lt hp2 hk
      clear hoff2 ha1 ha2 hhalf hv
      refine Stop.go (while_my 2 (fun k m news => ∃ (rv : List Value) (rs : List Str) (n' : Nat) (v : Int) (t : Tok), news = (R, W.listOf rv.toArray n') :: (I, oI) :: (O, W.listOf ov.toArray n) :: (PC, W.listOf tvC.toArray 0) :: (PA, W.listOf tvA.toArray 0) :: own ∧
          StrsAre rv rs ∧ (∀ p ∈ rs, pieceOk p) ∧ 1 ≤ rs.length ∧ rs.length + k = 3 ∧ 0 ≤ v ∧ v < 6 ^ (k + 1) ∧ m (Str.ofString "left") = some (.int v t) ∧ m (Str.ofString "half") = some (.int half th) ∧ m (Str.ofString "x") = some (.int x tx) ∧ m (Str.ofString "row") = some (.ref R) ∧
          m (Str.ofString "parts") = some (.ref PA) ∧ m (Str.ofString "pieces") = some (.ref PC) ∧ m (Str.ofString "orders") = some (.ref O)) F2 N2
          ⟨[_], _, 0, v, tl, rfl, .cons _ _ .nil, (fun p hp => by rw [List.mem_singleton.mp hp]; exact hget _ (by have := fm6 v; omega)), Nat.le_refl _, rfl, hv0.1, hv0.2, m2a, m2b, m2c, m2d, m2e, m2f, m2g⟩ ?_)
      clear F2 N2 hv0 m2a m2b m2c m2d m2e m2f m2g eA eC eO
      rintro k m3 news3 h3' tk3 hq0 F3 N3
      ((try dsimp only); (try walk_at "m_fold"))
      refine hide ?_
      intro Gq hGq
      obtain ⟨rv, rs, n', v, t, rfl, hrv, hrs, hr1, hrk, hv1, hv2, m3a, m3b, m3c, m3d, m3e, m3f, m3g⟩ := hq0
      refine hGq ?_
      clear hGq Gq
      have hrl := SA.length hrv
      have hfd : v.fdiv 6 = v / 6 := Int.fdiv_eq_ediv_of_nonneg _ (by decide)
      replace F3 : Fr g L' h3' _ := F3
      replace N3 : News g L' h3' _ := N3
      (all_goals try walk_at "m_fold")
      k_steps
      all_goals first | exact absurd (by assumption : x.fmod 2 = 0) hx2 | skip
      · rename_i hgt tkA hA' _ hxA tA hB' FA NA
        rw [hfd] at hgt
        obtain ⟨j, rfl, hj⟩ := pow_step (by omega) hv1 hv2 hgt
        refine WhileEnd.go j _ FA NA (Nat.lt_succ_self _) (fun p hp => hp) ⟨rv ++ [_], rs ++ [_], n' + 1, v.fdiv 6, _, rfl, SA.snoc hrv _ _, ?_, ?_, ?_, ?_, ?_, rfl, m3b, m3c, m3d, m3e, m3f, m3g⟩
        · intro p hp
          rcases List.mem_append.mp hp with hp | hp
          · exact hrs p hp
          · rw [List.mem_singleton.mp hp]; exact hget _ (by have := fm6 (v.fdiv 6); omega)
        · rw [List.length_append]; omega
        · rw [List.length_append, List.length_singleton]; omega
        · rw [hfd]; omega
        · rw [hfd]; exact hj
      · with_reducible rename Fr _ _ _ _ => FA
        with_reducible rename News _ _ _ _ => NA
        have hx1 : x.fmod 2 = 1 := by
          have h1 := Int.fmod_nonneg_of_pos x (show (0 : Int) < 2 by decide)
          have h2 := Int.fmod_lt_of_pos x (show (0 : Int) < 2 by decide)
          omega
        refine' OJ_end FA NA (fun p hp b hb => hoff3 p hp b (.tail _ hb)) hOI hCI hAI ?hT ?hR hov hos hol hrv ?hg m3e m3f m3g ?hs
        case hs => exact (List.forall_mem_cons.mpr ⟨by k_mem, List.forall_mem_cons.mpr ⟨by k_mem, List.forall_mem_cons.mpr ⟨by k_mem, List.forall_mem_cons.mpr ⟨by k_mem, List.forall_mem_cons.mpr ⟨by k_mem, List.forall_mem_cons.mpr ⟨by k_mem, fun p hp => by k_ownIn⟩⟩⟩⟩⟩⟩)
        case hT => exact ⟨by omega, by omega, by omega, by omega⟩
        case hR => exact ⟨by omega, by omega, by omega, by omega⟩
        case hg => rw [hx1]; exact good3 hrs hr1 (by omega)
  · rintro m₁ news₁ h tk hq0 Fi Ni
    ((try dsimp only); (try walk_at "m_fold"))
    refine hide ?_
    intro Gq hGq
    obtain ⟨own, ov, n, os, rfl, hoff, hov, hos, hol, eA, eC, eO⟩ := hq0
    refine hGq ?_
    clear hGq Gq
    have Nt : News g L' h own := fun p hp => Ni p (.tail _ (.tail _ (.tail _ hp)))
    replace Fi : Fr g L' h _ := Fi
    replace Ni : News g L' h _ := Ni
    (all_goals try walk_at "m_fold")
    k_steps
    with_reducible rename Fr _ _ _ _ => F7
    with_reducible rename News _ _ _ _ => N7
    exact hret _ _ _ (fun b o e => Fr.keep F7 b o (hg ▸ e)) ⟨os, ⟨O, ov, rfl, News.isList N7 (by k_mem), hov.mono fun a b x => x.at Nt⟩, hos, by omega⟩

abbrev cl (x : Str) : List Nat := x.cps.toList
theorem cl_app (x y : Str) : cl (x ++ y) = cl x ++ cl y := KAf.app_list x y
theorem cl_inj {x y : Str} (h : cl x = cl y) : x = y := by
  obtain ⟨a⟩ := x
  obtain ⟨b⟩ := y
  exact congrArg Str.mk (Array.toList_inj.mp h)
theorem cl_len (x : Str) : (cl x).length = x.length := Array.length_toList
noncomputable def jl : List (List Nat) → List Nat
  | [] => []
  | [a] => a
  | a :: b :: t => a ++ 47 :: jl (b :: t)
noncomputable def tl : List (List Nat) → List Nat
  | [] => []
  | b :: t => 47 :: jl (b :: t)
theorem jl_cons (a : List Nat) : ∀ t, jl (a :: t) = a ++ tl t
  | [] => (List.append_nil _).symm
  | _ :: _ => rfl
theorem join_cl : ∀ l : List Str, cl (Str.join (Str.ofString "/") l) = jl (l.map cl)
  | [] => rfl
  | [a] => rfl
  | a :: b :: t => by
    show cl (a ++ Str.ofString "/" ++ Str.join (Str.ofString "/") (b :: t)) = _
    rw [cl_app, cl_app, join_cl (b :: t), List.append_assoc]
    rfl
def Free (a : List Nat) : Prop := 47 ∉ a
theorem sep_inj : ∀ {a b r s : List Nat}, Free a → Free b → (r = [] ∨ ∃ r', r = 47 :: r') → (s = [] ∨ ∃ s', s = 47 :: s') → a ++ r = b ++ s → a = b ∧ r = s
  | [], [], _, _, _, _, _, _, h => ⟨rfl, h⟩
  | [], y :: b, r, s, _, hb, hr, _, h => by
    rcases hr with rfl | ⟨r', rfl⟩
    · cases h
    · obtain ⟨rfl, -⟩ := List.cons.inj h
      exact absurd (.head _) hb
  | x :: a, [], r, s, ha, _, _, hs, h => by
    rcases hs with rfl | ⟨s', rfl⟩
    · cases h
    · obtain ⟨rfl, -⟩ := List.cons.inj h
      exact absurd (.head _) ha
  | x :: a, y :: b, r, s, ha, hb, hr, hs, h => by
    obtain ⟨rfl, h1⟩ := List.cons.inj h
    obtain ⟨rfl, h2⟩ := sep_inj (fun q => ha (.tail _ q)) (fun q => hb (.tail _ q)) hr hs h1
    exact ⟨rfl, h2⟩
theorem tl_or : ∀ t, tl t = [] ∨ ∃ r, tl t = 47 :: r
  | [] => .inl rfl
  | _ :: _ => .inr ⟨_, rfl⟩
theorem jl_inj : ∀ {A B : List (List Nat)}, A ≠ [] → B ≠ [] → (∀ a ∈ A, Free a) → (∀ b ∈ B, Free b) → jl A = jl B → A = B
  | [], _, h, _, _, _, _ => absurd rfl h
  | _, [], _, h, _, _, _ => absurd rfl h
  | a :: A, b :: B, _, _, hA, hB, h => by
    rw [jl_cons, jl_cons] at h
    obtain ⟨rfl, h2⟩ := sep_inj (hA a (.head _)) (hB b (.head _)) (tl_or A) (tl_or B) h
    congr 1
    cases A with
    | nil => cases B with
      | nil => rfl
      | cons b' B' => cases h2
    | cons a' A' => cases B with
      | nil => cases h2
      | cons b' B' =>
        have h3 : jl (a' :: A') = jl (b' :: B') := (List.cons.inj h2).2
        exact jl_inj nofun nofun (fun x hx => hA x (.tail _ hx)) (fun x hx => hB x (.tail _ hx)) h3
theorem map_cl_inj : ∀ {A B : List Str}, A.map cl = B.map cl → A = B
  | [], [], _ => rfl
  | [], _ :: _, h => by cases h
  | _ :: _, [], h => by cases h
  | a :: A, b :: B, h => by
    obtain ⟨h1, h2⟩ := List.cons.inj h
    rw [cl_inj h1, map_cl_inj h2]
theorem slash_eq : Str.ofString "/" = ⟨#[47]⟩ := by decide +kernel
theorem split_join {P : List Str} (hne : P ≠ []) (hf : ∀ p ∈ P, Free (cl p)) : Txt.split (Str.join (Str.ofString "/") P) (Str.ofString "/") = P := by
  have h1 := StrLaws.join_split (Str.join (Str.ofString "/") P) (Str.ofString "/")
  have h2 := split_pos (Str.join (Str.ofString "/") P) (Str.ofString "/")
  have h3 : ∀ p ∈ Txt.split (Str.join (Str.ofString "/") P) (Str.ofString "/"), Free (cl p) := by
    intro p hp
    rw [slash_eq] at hp
    exact StrLaws.split_free _ 47 p hp
  generalize Txt.split (Str.join (Str.ofString "/") P) (Str.ofString "/") = A at h1 h2 h3
  have h4 : jl (A.map cl) = jl (P.map cl) := by rw [← join_cl, ← join_cl, h1]
  refine map_cl_inj (jl_inj ?_ ?_ ?_ ?_ h4)
  · intro q
    rw [List.map_eq_nil_iff] at q
    rw [q] at h2; cases h2
  · intro q
    exact hne (List.map_eq_nil_iff.mp q)
  · intro a ha
    obtain ⟨p, hp, rfl⟩ := List.mem_map.mp ha
    exact h3 p hp
  · intro a ha
    obtain ⟨p, hp, rfl⟩ := List.mem_map.mp ha
    exact hf p hp
theorem nstep_eq (acc : List Str) (c : Str) : nstep acc c = stepPart acc c := by
  unfold nstep stepPart
  by_cases h1 : c = Str.ofString ".."
  · subst h1
    rw [if_neg (by decide), if_pos rfl, if_pos rfl]
  · by_cases h2 : c = Str.ofString "" ∨ c = Str.ofString "."
    · rw [if_pos h2, if_neg h1, if_pos h2]
    · rw [if_neg h2, if_neg h1, if_neg h1, if_neg h2]
theorem norm_eq (P acc : List Str) : P.foldl nstep acc = P.foldl stepPart acc := by
  have e : nstep = stepPart := by funext a c; exact nstep_eq a c
  rw [e]
theorem here_norm : ∀ (here acc : List Str), hereOk here → here.foldl stepPart acc = acc ++ here
  | [], acc, _ => (List.append_nil _).symm
  | c :: here, acc, h => by
    have e : stepPart acc c = acc ++ [c] := by
      unfold stepPart
      rcases h c (.head _) with rfl | rfl | rfl <;> rw [if_neg (by decide), if_neg (by decide)]
    rw [List.foldl_cons, e, here_norm here _ fun x hx => h x (.tail _ hx), List.append_assoc]
    rfl
theorem free_of {x : Str} (h : (cl x).all (fun c => decide (c ≠ 47)) = true) : Free (cl x) := fun hc => absurd rfl (of_decide_eq_true (List.all_eq_true.mp h 47 hc))
theorem free_part {p : Str} (h : partOk p) : Free (cl p) := by rcases h with rfl | rfl | rfl | rfl | rfl | rfl <;> exact free_of (by decide)
theorem free_comp {p : Str} (h : compOk p) : Free (cl p) := by rcases h with rfl | rfl | rfl <;> exact free_of (by decide)
/-- what normpath makes of a slash and parts with slashes between -/
theorem norm_law {P : List Str} {y : Str} (hy : y = Str.ofString "/" ++ Str.join (Str.ofString "/") P) {p : Str} {Q : List Str} (hP : P = p :: Q) (hp : 1 ≤ p.length) (hf : ∀ p ∈ P, Free (cl p)) :
    Txt.slice y none (some 1) = Str.ofString "/" ∧ Txt.slice y (some 1) (some 2) ≠ Str.ofString "/" ∧
    Str.ofString "/" ++ Txt.join (Str.ofString "/") (normF (Txt.split (Txt.slice y (some 1) none) (Str.ofString "/"))) = pathOf (P.foldl stepPart []) := by
  have hc : cl y = 47 :: cl (Str.join (Str.ofString "/") P) := by rw [hy, cl_app]; rfl
  have hj : ∃ c r, cl (Str.join (Str.ofString "/") P) = c :: r ∧ c ≠ 47 := by
    rw [join_cl, hP, List.map_cons, jl_cons]
    have hpc : Free (cl p) := hf p (by rw [hP]; exact .head _)
    have hpl : 1 ≤ (cl p).length := by rw [cl_len]; exact hp
    cases e : cl p with
    | nil => rw [e] at hpl; cases hpl
    | cons c r => exact ⟨c, r ++ tl (Q.map cl), rfl, fun q => hpc (by rw [e, q]; exact .head _)⟩
  obtain ⟨c, r, hcr, hc47⟩ := hj
  have hl : y.length = r.length + 2 := by rw [← cl_len, hc, hcr]; rfl
  have e1 : Txt.slice y none (some 1) = Str.ofString "/" := by
    have h := eq_of_beq (slice_closes_toL (x := y) (j := 1) (by decide) (by omega))
    rw [h]
    apply cl_inj
    show (((cl y).drop 0).take 1).toArray.toList = _
    rw [hc]; rfl
  have e2 : Txt.slice y (some 1) (some 2) ≠ Str.ofString "/" := by
    have h := eq_of_beq (slice_closesL (x := y) (i := 1) (j := 2) (by decide) (by decide) (by omega))
    rw [h]
    intro q
    have q2 : ((cl y).drop 1).take 1 = [47] := congrArg cl q
    rw [hc, hcr] at q2
    exact hc47 (List.cons.inj q2).1
  have e3 : Txt.slice y (some 1) none = Str.join (Str.ofString "/") P := by
    have h := slice_from_eq (x := y) (i := 1) (b := y.length) (by decide) (by omega) rfl
    rw [h]
    apply cl_inj
    show (((cl y).drop 1).take ((y.length : Int) - 1).toNat).toArray.toList = _
    rw [hc, List.drop_succ_cons, List.drop_zero, List.take_of_length_le (by rw [hcr, hl]; simp; omega)]
  refine ⟨e1, e2, ?_⟩
  rw [e3, split_join (by rw [hP]; nofun) hf]
  unfold normF
  rw [norm_eq, ← pathT]
theorem join_more {a b : List Str} (ha : a ≠ []) (hb : b ≠ []) : Str.join (Str.ofString "/") (a ++ b) = Str.join (Str.ofString "/") a ++ (Str.ofString "/" ++ Str.join (Str.ofString "/") b) := by
  induction a with
  | nil => exact absurd rfl ha
  | cons x a ih =>
    cases a with
    | nil =>
      cases b with
      | nil => exact absurd rfl hb
      | cons y b =>
        show x ++ Str.ofString "/" ++ Str.join (Str.ofString "/") (y :: b) = _
        rw [str_app_assoc]; rfl
    | cons z a =>
      have h := ih (List.cons_ne_nil _ _)
      show x ++ Str.ofString "/" ++ Str.join (Str.ofString "/") (z :: a ++ b) = x ++ Str.ofString "/" ++ Str.join (Str.ofString "/") (z :: a) ++ _
      rw [h, ← str_app_assoc (x ++ Str.ofString "/")]
theorem hereOk_sum {here : List Str} (h : hereOk here) : (Str.join (Str.ofString "/") here).length ≤ 3 * here.length := by
  have h1 := here_sum h
  have h2 := StrLaws.join_length_le (Str.ofString "/") here
  rw [show (Str.ofString "/").length = 1 from rfl] at h2
  omega
theorem path_len {here : List Str} (hh : hereOk here) (hl : here.length ≤ 100) : 1 ≤ (pathOf here).length ∧ (pathOf here).length ≤ 400 := by
  have h1 := hereOk_sum hh
  unfold pathOf
  rw [str_len_app, show (Str.ofString "/").length = 1 from rfl]
  omega
theorem word_len {row : List Str} (hr : ordGood (0, row)) : (Str.join (Str.ofString "/") row).length ≤ 400 := by
  rcases hr.1 with ⟨-, -, h3, h4⟩ | ⟨h1, -⟩
  · have h5 : ∀ l : List Str, (∀ p ∈ l, partOk p) → (l.map (·.length)).sum ≤ l.length * 2 := by
      intro l
      induction l with
      | nil => intro _; exact Nat.zero_le _
      | cons p l ih =>
        intro h
        have h6 := ih fun q hq => h q (.tail _ hq)
        have h7 := part_len (h p (.head _))
        rw [List.map_cons, List.sum_cons, List.length_cons]
        omega
    have h6 := h5 row h4
    have h7 := StrLaws.join_length_le (Str.ofString "/") row
    rw [show (Str.ofString "/").length = 1 from rfl] at h7
    have h8 : row.length ≤ 7 := h3
    omega
  · cases h1
theorem starts_no {p : Str} (h : partOk p) (hne : p ≠ Str.ofString "") : Txt.startswith p (Str.ofString "/") = false ∧ 1 ≤ p.length := by
  rcases h with rfl | rfl | rfl | rfl | rfl | rfl
  · exact absurd rfl hne
  all_goals exact ⟨by decide +kernel, by decide⟩
theorem ends_no {p : Str} (h : compOk p) : Txt.endswith p (Str.ofString "/") = false ∧ 1 ≤ p.length := by
  rcases h with rfl | rfl | rfl
  all_goals exact ⟨by decide +kernel, by decide⟩
theorem join_head (p : Str) : ∀ Q : List Str, ∃ T, Str.join (Str.ofString "/") (p :: Q) = p ++ T
  | [] => ⟨Str.empty, (str_app_empty p).symm⟩
  | q :: Q => ⟨Str.ofString "/" ++ Str.join (Str.ofString "/") (q :: Q), str_app_assoc _ _ _⟩
theorem path_last {init : List Str} {c : Str} : ∃ U, pathOf (init ++ [c]) = U ++ c ∧ ∃ V, cl U = V ++ [47] := by
  unfold pathOf
  cases init with
  | nil => exact ⟨Str.ofString "/", rfl, [], rfl⟩
  | cons a i =>
    rw [join_more (List.cons_ne_nil _ _) (List.cons_ne_nil _ _)]
    refine ⟨Str.ofString "/" ++ (Str.join (Str.ofString "/") (a :: i) ++ Str.ofString "/"), ?_, cl (Str.ofString "/") ++ cl (Str.join (Str.ofString "/") (a :: i)), ?_⟩
    · rw [str_app_assoc, str_app_assoc]; rfl
    · rw [cl_app, cl_app, List.append_assoc]; rfl
theorem go_law {here row : List Str} (hh : hereOk here) (hl : here.length ≤ 100) (hr : ordGood (0, row)) : ∃ y,
    (if Txt.startswith (Str.join (Str.ofString "/") row) (Str.ofString "/") = true then Str.join (Str.ofString "/") row else if Txt.endswith (pathOf here) (Str.ofString "/") = true then pathOf here ++ Str.join (Str.ofString "/") row else pathOf here ++ (Str.ofString "/" ++ Str.join (Str.ofString "/") row)) = y ∧
    y.length ≤ 65536 ∧ Txt.slice y none (some 1) = Str.ofString "/" ∧ Txt.slice y (some 1) (some 2) ≠ Str.ofString "/" ∧
    Str.ofString "/" ++ Txt.join (Str.ofString "/") (normF (Txt.split (Txt.slice y (some 1) none) (Str.ofString "/"))) = pathOf (row.foldl stepPart (startOf here row)) := by
  have hwl := word_len hr
  obtain ⟨hp1, hp2⟩ := path_len hh hl
  obtain ⟨hne, hpo⟩ : row ≠ [] ∧ ∀ p ∈ row, partOk p := by
    rcases hr.1 with ⟨-, h2, -, h4⟩ | ⟨h1, -⟩
    · exact ⟨h2, h4⟩
    · cases h1
  have hgo := hr.2 rfl
  clear hr
  cases row with
  | nil => exact absurd rfl hne
  | cons p Q =>
    have hfr : ∀ q ∈ p :: Q, Free (cl q) := fun q hq => free_part (hpo q hq)
    by_cases hp : p = Str.ofString ""
    · subst hp
      obtain ⟨r', rfl⟩ := hgo Q rfl
      have hJ : Str.join (Str.ofString "/") (Str.ofString "" :: Str.ofString "." :: r') = Str.ofString "/" ++ Str.join (Str.ofString "/") (Str.ofString "." :: r') := by
        show Str.empty ++ Str.ofString "/" ++ _ = _
        rw [empty_app]
      have hst : Txt.startswith (Str.join (Str.ofString "/") (Str.ofString "" :: Str.ofString "." :: r')) (Str.ofString "/") = true := by
        rw [hJ, KAf.starts_left (by decide)]; decide +kernel
      refine ⟨_, if_pos hst, by omega, ?_⟩
      have e : startOf here (Str.ofString "" :: Str.ofString "." :: r') = [] := by unfold startOf; exact if_pos rfl
      rw [e]
      have e2 : List.foldl stepPart [] (Str.ofString "" :: Str.ofString "." :: r') = List.foldl stepPart [] (Str.ofString "." :: r') := by
        rw [List.foldl_cons]
        have : stepPart [] (Str.ofString "") = [] := by unfold stepPart; rw [if_neg (by decide), if_pos (.inl rfl)]
        rw [this]
      rw [e2]
      exact norm_law hJ rfl (by decide) fun q hq => hfr q (.tail _ hq)
    · obtain ⟨hs1, hs2⟩ := starts_no (hpo p (.head _)) hp
      obtain ⟨T, hT⟩ := join_head p Q
      have hst : ¬ Txt.startswith (Str.join (Str.ofString "/") (p :: Q)) (Str.ofString "/") = true := by
        rw [hT, KAf.starts_left (by rw [show (Str.ofString "/").length = 1 from rfl]; exact hs2), hs1]; exact Bool.false_ne_true
      have e : startOf here (p :: Q) = here := by unfold startOf; exact if_neg hp
      rw [if_neg hst, e]
      rcases List.eq_nil_or_concat here with rfl | ⟨init, c, rfl⟩
      · have hen : Txt.endswith (pathOf []) (Str.ofString "/") = true := by decide +kernel
        refine ⟨_, if_pos hen, by rw [str_len_app]; omega, ?_⟩
        refine norm_law (P := p :: Q) ?_ rfl hs2 hfr
        show Str.ofString "/" ++ Str.empty ++ _ = _
        rw [str_app_empty]
      · rw [List.concat_eq_append] at hh hl hp1 hp2 ⊢
        obtain ⟨U, hU, -⟩ := path_last (init := init) (c := c)
        have hcc := hh c (List.mem_append_right _ (.head _))
        have hen : ¬ Txt.endswith (pathOf (init ++ [c])) (Str.ofString "/") = true := by
          rw [hU, KAf.ends_right (by rw [show (Str.ofString "/").length = 1 from rfl]; exact (ends_no hcc).2), (ends_no hcc).1]; exact Bool.false_ne_true
        refine ⟨_, if_neg hen, by rw [str_len_app, str_len_app, show (Str.ofString "/").length = 1 from rfl]; omega, ?_⟩
        have hfo : List.foldl stepPart (init ++ [c]) (p :: Q) = List.foldl stepPart [] (init ++ [c] ++ p :: Q) := by
          rw [List.foldl_append, here_norm _ [] hh, List.nil_append]
        rw [hfo]
        have hff : ∀ q ∈ init ++ [c] ++ p :: Q, Free (cl q) := fun q hq => (List.mem_append.mp hq).elim (fun h => free_comp (hh q h)) (hfr q)
        have hyy : pathOf (init ++ [c]) ++ (Str.ofString "/" ++ Str.join (Str.ofString "/") (p :: Q)) = Str.ofString "/" ++ Str.join (Str.ofString "/") (init ++ [c] ++ p :: Q) := by
          rw [join_more (a := init ++ [c]) (b := p :: Q) (by simp) (List.cons_ne_nil _ _)]
          unfold pathOf
          rw [str_app_assoc]
        obtain ⟨p0, Q0, hPQ⟩ : ∃ p0 Q0, init ++ [c] = p0 :: Q0 := by cases init with
          | nil => exact ⟨_, _, rfl⟩
          | cons a i => exact ⟨_, _, rfl⟩
        have hp0 : 1 ≤ p0.length := (ends_no (hh p0 (by rw [hPQ]; exact .head _))).2
        rw [hPQ] at hyy hff ⊢
        exact norm_law hyy rfl hp0 hff
theorem last_ok {here : List Str} (hh : hereOk here) : lastOf here = Str.ofString "" ∨ compOk (lastOf here) := by
  unfold lastOf
  split
  · exact .inl rfl
  · rename_i h
    have hl : here.length - 1 < here.length := by
      cases here with
      | nil => exact absurd rfl h
      | cons a t => rw [List.length_cons]; omega
    refine .inr (hh _ ?_)
    rw [List.getD_eq_getElem?_getD, List.getElem?_eq_getElem hl, Option.getD_some]
    exact List.getElem_mem hl
theorem asks_law {row : List Str} {name : Str} (hr : row.length ≤ 3) (hp : ∀ p ∈ row, pieceOk p) (hn : name = Str.ofString "" ∨ compOk name) : takesB row name = fitsB row name := by
  have hm : name ∈ names4 := by
    rcases hn with rfl | rfl | rfl | rfl
    · exact .head _
    · exact .tail _ (.head _)
    · exact .tail _ (.tail _ (.head _))
    · exact .tail _ (.tail _ (.tail _ (.head _)))
  have hpm : ∀ p ∈ row, p ∈ pieces6 := fun p h => by
    rcases hp p h with rfl | rfl | rfl | rfl | rfl | rfl
    · exact .head _
    · exact .tail _ (.head _)
    · exact .tail _ (.tail _ (.head _))
    · exact .tail _ (.tail _ (.tail _ (.head _)))
    · exact .tail _ (.tail _ (.tail _ (.tail _ (.head _))))
    · exact .tail _ (.tail _ (.tail _ (.tail _ (.tail _ (.head _)))))
  have hs : same1 row = true := by
    match row, hr, hpm with
    | [], _, _ => exact same_0
    | [p], _, h => exact List.all_eq_true.mp same_1 p (h p (.head _))
    | [p, q], _, h => exact List.all_eq_true.mp (List.all_eq_true.mp same_2 p (h p (.head _))) q (h q (.tail _ (.head _)))
    | [p, q, r], _, h => exact List.all_eq_true.mp (List.all_eq_true.mp (List.all_eq_true.mp same_3 p (h p (.head _))) q (h q (.tail _ (.head _)))) r (h r (.tail _ (.tail _ (.head _))))
    | _ :: _ :: _ :: _ :: _, hr, _ => simp at hr
  exact eq_of_beq (List.all_eq_true.mp hs name hm)
open PySem.Builtin.Str in
noncomputable def lastBody (s sub : Str) (hi : Nat) (i : Nat) (st : Option Nat) : Id (ForInStep (Option Nat)) :=
  if (decide (i + sub.length ≤ hi) && subAt s sub i) = true then pure (ForInStep.yield (some i)) else pure (ForInStep.yield st)
open PySem.Builtin.Str in
theorem last_eq (s sub : Str) (lo hi : Nat) : lastOccurrence s sub lo hi = (forIn (List.range' lo (hi + 1 - lo)) (none : Option Nat) (lastBody s sub hi)).run := by
  unfold lastOccurrence lastBody
  simp
open PySem.Builtin.Str in
theorem last_none (s sub : Str) (hi : Nat) : ∀ (l : List Nat) (st : Option Nat), (∀ i ∈ l, (decide (i + sub.length ≤ hi) && subAt s sub i) = false) → (forIn l st (lastBody s sub hi)).run = st
  | [], _, _ => rfl
  | a :: l, st, h => by
    rw [List.forIn_cons]
    unfold lastBody
    rw [if_neg (by rw [h a (.head _)]; exact Bool.false_ne_true)]
    exact last_none s sub hi l st fun i hi' => h i (.tail _ hi')
open PySem.Builtin.Str in
theorem last_some (s sub : Str) (hi k : Nat) (B : List Nat) (hk : (decide (k + sub.length ≤ hi) && subAt s sub k) = true) (hB : ∀ i ∈ B, (decide (i + sub.length ≤ hi) && subAt s sub i) = false) :
    ∀ (A : List Nat) (st : Option Nat), (forIn (A ++ k :: B) st (lastBody s sub hi)).run = some k
  | [], st => by
    rw [List.nil_append, List.forIn_cons]
    unfold lastBody
    rw [if_pos hk]
    exact last_none s sub hi B (some k) hB
  | a :: A, st => by
    rw [List.cons_append, List.forIn_cons]
    unfold lastBody
    split
    · exact last_some s sub hi k B hk hB A (some a)
    · exact last_some s sub hi k B hk hB A st
theorem rfind_law {x : Str} {V c : List Nat} (hx : cl x = V ++ 47 :: c) (hc : Free c) : Txt.rfind x (Str.ofString "/") = (V.length : Int) := by
  have hlen : x.length = V.length + (c.length + 1) := by rw [← cl_len, hx, List.length_append, List.length_cons]
  have hs1 : (Str.ofString "/").length = 1 := rfl
  have key : Builtin.Str.lastOccurrence x (Str.ofString "/") 0 x.length = some V.length := by
    rw [last_eq]
    have hm : V.length ∈ List.range' 0 (x.length + 1 - 0) := by
      rw [List.mem_range'_1]; omega
    have hp : (List.range' 0 (x.length + 1 - 0)).Pairwise (· < ·) := List.pairwise_lt_range'
    obtain ⟨A, B, hAB⟩ := List.append_of_mem hm
    rw [hAB] at hp ⊢
    have hB : ∀ b ∈ B, V.length < b := (List.pairwise_cons.mp (List.pairwise_append.mp hp).2.1).1
    refine last_some x (Str.ofString "/") x.length V.length B ?_ (fun i hi => ?_) A none
    · rw [StrLaws.subAt_eq, hs1]
      have e : (x.cps.toList.drop V.length).take 1 = [47] := by
        show ((cl x).drop V.length).take 1 = _
        rw [hx, List.drop_left' rfl]; rfl
      rw [e, decide_eq_true (by omega)]
      decide +kernel
    · have hi2 := hB i hi
      rw [StrLaws.subAt_eq, hs1]
      have e : ((x.cps.toList.drop i).take 1 == (Str.ofString "/").cps.toList) = false := by
        rw [beq_eq_false_iff_ne]
        intro q
        have q2 : ((cl x).drop i).take 1 = [47] := q
        have hd : (cl x).drop i = c.drop (i - V.length - 1) := by
          rw [hx, show i = V.length + (i - V.length - 1 + 1) by omega, List.drop_append, List.drop_eq_nil_of_le (by omega), List.nil_append]
          rw [show V.length + (i - V.length - 1 + 1) - V.length = i - V.length - 1 + 1 by omega, List.drop_succ_cons]
          congr 1
        rw [hd] at q2
        have hmem : (47 : Nat) ∈ (c.drop (i - V.length - 1)).take 1 := by rw [q2]; exact .head _
        exact hc (List.mem_of_mem_drop (List.mem_of_mem_take hmem))
      rw [e, Bool.and_false]
  unfold Txt.rfind
  rw [key]
theorem base_law {here : List Str} (hh : hereOk here) (_ : here.length ≤ 100) : Txt.slice (pathOf here) (some (Txt.rfind (pathOf here) (Str.ofString "/") + 1)) none = lastOf here := by
  rcases List.eq_nil_or_concat here with rfl | ⟨init, c, rfl⟩
  · decide +kernel
  · rw [List.concat_eq_append] at hh ⊢
    obtain ⟨U, hU, V, hV⟩ := path_last (init := init) (c := c)
    have hcc := hh c (List.mem_append_right _ (.head _))
    have hx : cl (pathOf (init ++ [c])) = V ++ 47 :: cl c := by rw [hU, cl_app, hV, List.append_assoc]; rfl
    have hlen : (pathOf (init ++ [c])).length = V.length + (c.length + 1) := by rw [← cl_len, hx, List.length_append, List.length_cons, cl_len]
    rw [rfind_law hx (free_comp hcc)]
    have h := slice_from_eq (x := pathOf (init ++ [c])) (i := (V.length : Int) + 1) (b := (pathOf (init ++ [c])).length) (by omega) (by omega) rfl
    rw [h]
    have hlast : lastOf (init ++ [c]) = c := by
      unfold lastOf
      rw [if_neg (by simp)]
      simp
    rw [hlast]
    apply cl_inj
    show (((cl (pathOf (init ++ [c]))).drop ((V.length : Int) + 1).toNat).take (((pathOf (init ++ [c])).length : Int) - ((V.length : Int) + 1)).toNat).toArray.toList = _
    have e1 : ((V.length : Int) + 1).toNat = V.length + 1 := by omega
    have e2 : (V ++ 47 :: cl c).drop (V.length + 1) = cl c := by
      rw [List.drop_append, List.drop_eq_nil_of_le (by omega), List.nil_append, show V.length + 1 - V.length = 1 by omega, List.drop_succ_cons, List.drop_zero]
    rw [e1, hx, e2, List.take_of_length_le (by rw [cl_len]; omega)]

theorem fillit_MDone : PySem.Challenge.rw_in0069_01 = PySem.Challenge.rw_in0069_01 ∧ hd.heap_39 = hd.heap_39 := by
  w_top off
  k_fill
  exact ⟨rfl, rfl⟩
theorem ListAt.hide {α : Type} {h g : Heap} {P : Addr} {ps : Array Value} {R : Heap → Value → α → Prop} {l : Addr} {xs : List α} (hp : h.get? P = some (tabObj ps)) (hg : hideAll h [P] = g) (hR : ∀ v x, R h v x → R g v x) (x : ListAt h R (.ref l) xs) : ListAt g R (.ref l) xs := by
  obtain ⟨l', vs, e, ⟨o, ho, hc, hd⟩, hvs⟩ := x
  cases e
  refine ⟨l, vs, rfl, ⟨o, hg ▸ hideAll_get [P] ho fun q => ?_, hc, hd⟩, hvs.mono hR⟩
  rw [List.mem_singleton.mp q, hp] at ho
  cases ho
  cases hc
theorem WordAt.hide {h g : Heap} {P : Addr} {ps : Array Value} (hp : h.get? P = some (tabObj ps)) (hg : hideAll h [P] = g) (v : Value) (o : Int × Str) (x : WordAt h v o) : WordAt g v o := by
  obtain ⟨a, t, u, e, o', ho, hc, hd⟩ := x
  refine ⟨a, t, u, e, o', hg ▸ hideAll_get [P] ho fun q => ?_, hc, hd⟩
  rw [List.mem_singleton.mp q, hp] at ho
  cases ho
  cases hc
theorem hereOk_fold : ∀ (row : List Str) {here : List Str}, hereOk here → (∀ p ∈ row, partOk p) → hereOk (row.foldl stepPart here)
  | [], _, h, _ => h
  | p :: row, _, h, hp => hereOk_fold row (hereOk_step h (hp p (.head _))) fun q hq => hp q (.tail _ hq)
theorem here_fold_len : ∀ (row here : List Str), (row.foldl stepPart here).length ≤ here.length + row.length
  | [], _ => Nat.le_refl _
  | p :: row, here => by
    have h1 := here_fold_len row (stepPart here p)
    have h2 := stepPart_len here p
    rw [List.foldl_cons, List.length_cons]; omega
theorem startOf_ok {here : List Str} (h : hereOk here) (row : List Str) : hereOk (startOf here row) ∧ (startOf here row).length ≤ here.length := by
  unfold startOf
  split
  · exact ⟨(fun c hc => by cases hc), Nat.zero_le _⟩
  · exact ⟨h, Nat.le_refl _⟩


example : True := by
  k_with_none
  k_with "my m_enter" => ((refine' enter0 ?k1 ?k2 ?k3 ?k5 ?kA ?kF ?kK ?k6 ?k7 ?k8 ?k9 ?kB ?_ ?c2 ?c3 ?c4 ?c5; (case kA => exact rfl); (case kF => exact rfl); (case kK => assumption); (case k1 => k_asm); (case k2 => k_asm); (case k3 => k_asm); (case k5 => k_asm); (case k6 => k_is); (case k7 => k_is); (case k8 => ktr_room); (case k9 => exact BindsTo.of_eq rfl); (case c5 => decide); (case kB => exact locs rfl); (case c2 => exact rfl); (case c3 => exact rfl); (case c4 => exact rfl); k_whole))
  k_with "my call builtin:issubclass" => ((k_here; (with_reducible show wpAny _ _ (call _ [Value.type _, Value.ref _]) _ _ _); k_dflt (refine' call_iss ?k1 ?_; (case k1 => exact News.get (by k_asm) (by k_mem)))))
  k_with "my m_start" => ((refine wpAny_call ?_; k_dflt (walk_at "m_enter")))
  k_with "my m_use" => (((case kB => k_asm); (case kF => k_asm); (case kX => k_asm); (case kN => k_asm); (case kT => k_asm); (case kK => first | exact rfl | assumption); (case kD => ktr_room); (case kU => ktr_units)))
  k_with "my exec For Name Name cons nil" => ((k_here; refine Stop.out ?_))
  k_with "my exec For Tuple Name cons nil" => ((k_here; refine Stop.out ?_))
  k_with "my eval ListComp Call cons" => ((k_here; refine Stop.out ?_))
  k_with "my eval ListComp Name cons" => ((k_here; refine Stop.out ?_))
  k_with "my eval ListComp BinOp cons" => ((k_here; refine Stop.out ?_))
  k_with "my eval ListComp Tuple cons" => ((k_here; refine Stop.out ?_))
  k_with "my m_loc" => (first
  | exact rfl
  | with_reducible assumption
  | (refine Eq.trans (if_neg (by decide)) ?_; walk_at "m_loc")
  | ((with_reducible rename (∀ y : PySem.Str, y ≠ _ → _ = _) => hm9); refine Eq.trans (hm9 _ (by decide)) ?_; walk_at "m_loc"))
  k_with "my eval Name" => (((k_here; (with_reducible rename Fr _ _ _ _ => kF); k_dflt (refine' ld kF ?k2 ?_; (case k2 => walk_at "m_loc"); k_whole); (try dsimp only)); (try walk_at "m_hF")))
  k_with "my truthy ref" => ((k_here; (with_reducible show wpAny _ _ (truthy (Value.ref _)) _ _ _); k_dflt (refine' kgr_truthy ?N ?hm ?hc ?hd ?hf ?_; (case N => k_asm); (case hm => k_mem); (case hc => exact rfl); (case hd => exact rfl); (case hf => ((try simp only [strValues_length, List.length_append, List.length_cons, List.length_nil]); omega)); k_whole; (simp only [snoc_isEmpty, List.isEmpty_nil, Bool.not_true, Bool.not_false]))))
  k_with "my call builtin:list.append" => ((k_here; (with_reducible show wpAny _ _ (call (Value.builtin _) [Value.ref _, _]) _ _ _); k_dflt (refine' my_append ?F ?N ?U ?z ?_; (case F => k_asm); (case N => k_asm); (case U => k_upd); (case z => (rw [PySem.sizeLine_eq]; (try simp only [strValues_length, List.length_append, List.length_cons, List.length_nil]); omega)); k_whole; intro _ _ _; (try k_sweep))))
  k_with "my call builtin:list.pop" => ((k_here; (with_reducible show wpAny _ _ (call (Value.builtin _) [Value.ref _]) _ _ _); k_dflt (refine' my_pop ?F ?N ?U ?z ?_; (case F => k_asm); (case N => k_asm); (case U => k_upd); (case z => (rw [PySem.sizeLine_eq]; (try simp only [strValues_length, List.length_append, List.length_cons, List.length_nil]); omega)); k_whole; intro _ _ _; (try k_sweep))))
  k_with "my subscriptTail Name UnaryOp ref int" => ((k_here; (with_reducible show wpAny _ _ (subscriptTail _ _ (Value.ref _) (Value.int _ _)) _ _ _); k_dflt (refine' my_last ?N ?hm ?_; (case N => k_asm); (case hm => k_mem); k_whole)))
  k_with "my call builtin:str.join" => ((k_here; (with_reducible show wpAny _ _ (call (Value.builtin _) [Value.str _ _, Value.ref _]) _ _ _); k_dflt (refine' join_list (News.isList ?N ?hm) ?S ?ok ?_; (case N => k_asm); (case hm => k_mem); (case S => with_reducible assumption); (case ok => ((simp only [show (Str.ofString "/").length = 1 from rfl, show (Str.ofString "").length = 0 from rfl]); omega)); k_whole; intro _ _)))
  k_with "my binaryOp Add str str" => ((k_here; (with_reducible show wpAny _ _ (binaryOp Operator.Add (Value.str _ _) (Value.str _ _)) _ _ _); k_dflt (refine' SBL.add (hsz := ?z) ?_; (case z => (rw [PySem.sizeLine_eq]; (try simp only [show (Str.ofString "/").length = 1 from rfl]); omega)); k_whole; intro _ _)))
  k_with "my truthy str" => ((k_here; (with_reducible show wpAny _ _ (PySem.truthy (Value.str _ _)) _ _ _); k_dflt (refine' KXt.truthy_pos (K := 16777216) ?za ?zb (Nat.le_refl _) ?_; (case za => omega); (case zb => omega); k_whole; intro _)))
  k_with "my eval Name" => (((k_here; (with_reducible rename NsObj _ _ => nX9); k_dflt (refine' ldVarK (NsObj.ns nX9 (News.get ?N ?hm)) ?hv ?_; (case N => k_asm); (case hm => k_mem); (case hv => with_reducible assumption); k_whole)); (try walk_at "m_hX")))
  k_with "my call builtin:str.join" => ((k_here; (with_reducible show wpAny _ _ (call (Value.builtin _) [Value.str _ _, Value.ref _]) _ _ _); k_dflt (refine' join_list ?hl ?S ?ok ?_; (case hl => exact Heap.IsList.at (by with_reducible assumption) (Fr.keep (by k_asm) _)); (case S => with_reducible assumption); (case ok => ((simp only [show (Str.ofString "/").length = 1 from rfl, show (Str.ofString "").length = 0 from rfl]); omega)); k_whole; intro _ _)))
  k_with "my eval Name" => (((k_here; (with_reducible rename Fr _ _ _ _ => kF); (with_reducible rename NsObj _ _ => nX9); k_dflt (refine' nameG_B kF ?k1 ?k2 ?k3 ?k4 ?k5 ?_ ?k6 ?k7 ?k8 ?k9 ?k10; (case k1 => k_asm); (case k2 => k_asm); (case k3 => k_is); (case k4 => boot_by_name); (case k5 => decide); (case k6 => exact rfl); (case k7 => exact rfl); (case k8 => exact rfl); (case k9 => exact rfl); (case k10 => decide); k_whole)); (try walk_at "m_hF"); (try walk_at "m_hX")))
  k_with "my binaryOp Add ref ref" => ((k_here; (with_reducible show wpAny _ _ (binaryOp Operator.Add (Value.ref _) (Value.ref _)) _ _ _); k_dflt (refine' add_lists ?F ?N (News.isList ?N1 ?m1) (News.isList ?N2 ?m2) ?_ ?z; (case F => k_asm); (case N => k_asm); (case N1 => k_asm); (case m1 => k_mem); (case N2 => k_asm); (case m2 => k_mem); (case z => (rw [PySem.sizeLine_eq]; (try simp only [List.length_append, List.length_cons, List.length_nil]); omega)); k_whole; intro _ _ _; (try k_sweep))))
  k_with "my call builtin:len" => ((k_here; (with_reducible show wpAny _ _ (call _ [Value.ref _]) _ _ _); k_dflt (refine' len_list ?hl ?hf ?_; (case hl => exact Heap.IsList.at (by with_reducible assumption) (Fr.keep (by k_asm) _)); (case hf => ((simp only [List.size_toArray]); omega)); k_whole; (try simp only [List.size_toArray]))))
  k_with "my call type:bytes" => ((k_here; (with_reducible show wpAny _ _ (call (Value.type _) [Value.ref _]) _ _ _); k_dflt (refine' bytes_K ?F ?N (News.isList ?N1 ?m1) ?i ?r ?z ?h ?_; (case F => k_asm); (case N => k_asm); (case N1 => k_asm); (case m1 => k_mem); (case i => with_reducible assumption); (case r => with_reducible assumption); (case z => (rw [PySem.sizeLine_eq]; omega)); (case h => exact rfl); k_whole; intro _ _ _ _ _ _; (try k_sweep))))
  k_with "my m_enterT" => ((refine' enterT ?k1 ?k2 ?k3 ?k5 ?kN ?kA ?kF ?kK ?k6 ?k7 ?k8 ?k9 ?kB ?_ ?c2 ?c3 ?c4 ?c5; (case kA => exact rfl); (case kF => exact rfl); (case kK => assumption); (case k1 => k_asm); (case k2 => k_asm); (case k3 => k_asm); (case kN => k_asm); (case k5 => k_asm); (case k6 => k_is); (case k7 => k_is); (case k8 => ktr_room); (case k9 => exact BindsTo.of_eq rfl); (case c5 => decide); (case kB => exact locs rfl); (case c2 => exact rfl); (case c3 => exact rfl); (case c4 => exact rfl); k_whole))
  k_with "my m_startT" => ((refine wpAny_call ?_; k_dflt (walk_at "m_enterT")))
  k_with "my call ref" => ((k_here; (with_reducible show wpAny _ _ (call (Value.ref 170) [Value.str _ _, Value.str _ _]) _ _ _); k_dflt (refine' use0 (join_spec _ _ _ _ _ (by with_reducible assumption) (by with_reducible assumption) (by with_reducible assumption)) ?kB ?kF ?kX ?kN ?kT ?kK ?kD ?kU trivial ?_; walk_at "m_use"; k_whole; intro _ _ _ _ hp' _ _; obtain ⟨_, hp'⟩ := hp'; subst hp'; (try k_sweep))))
  k_with "my call ref" => ((k_here; (with_reducible show wpAny _ _ (call (Value.ref 191) [Value.str _ _]) _ _ _); refine Stop.out ?_))
  k_with "my call ref" => ((k_here; (with_reducible show wpAny _ _ (call (Value.ref 184) [Value.str _ _]) _ _ _); k_dflt (refine' use0 (basename_spec _ _ _ (by with_reducible assumption)) ?kB ?kF ?kX ?kN ?kT ?kK ?kD ?kU trivial ?_; walk_at "m_use"; k_whole; intro _ _ _ _ hp' _ _; obtain ⟨_, hp'⟩ := hp'; subst hp'; (try k_sweep))))
  k_with "my call ref" => ((k_here; (with_reducible show wpAny _ _ (call (Value.ref 225) [Value.str _ _, Value.str _ _]) _ _ _); refine Stop.out ?_))
  k_with "my eval Name" => (k_here; dsimp only)
  k_with "my eval Constant int" => (k_here; dsimp only)
  k_with "my eval Constant str" => (k_here; dsimp only)
  k_with "my m_fold" => (((first | (with_reducible show wpAny _ _ (PySem.execs _ _) _ _ _) | (with_reducible show wpAny _ _ (PySem.exec _ _) _ _ _)); (first | ((fail_if_success (have := qk0)); k_fold; (rename PySem.Flow → PySem.Shared → Prop => qk0); (rename PySem.Value → PySem.Shared → Prop => ek0)) | ((fail_if_success (have := qk1)); k_fold; (rename PySem.Flow → PySem.Shared → Prop => qk1); (rename PySem.Value → PySem.Shared → Prop => ek1)) | ((fail_if_success (have := qk2)); k_fold; (rename PySem.Flow → PySem.Shared → Prop => qk2); (rename PySem.Value → PySem.Shared → Prop => ek2)) | ((fail_if_success (have := qk3)); k_fold; (rename PySem.Flow → PySem.Shared → Prop => qk3); (rename PySem.Value → PySem.Shared → Prop => ek3)) | ((fail_if_success (have := qk4)); k_fold; (rename PySem.Flow → PySem.Shared → Prop => qk4); (rename PySem.Value → PySem.Shared → Prop => ek4)) | ((fail_if_success (have := qk5)); k_fold; (rename PySem.Flow → PySem.Shared → Prop => qk5); (rename PySem.Value → PySem.Shared → Prop => ek5)) | ((fail_if_success (have := qk6)); k_fold; (rename PySem.Flow → PySem.Shared → Prop => qk6); (rename PySem.Value → PySem.Shared → Prop => ek6)) | ((fail_if_success (have := qk7)); k_fold; (rename PySem.Flow → PySem.Shared → Prop => qk7); (rename PySem.Value → PySem.Shared → Prop => ek7)) | ((fail_if_success (have := qk8)); k_fold; (rename PySem.Flow → PySem.Shared → Prop => qk8); (rename PySem.Value → PySem.Shared → Prop => ek8)) | ((fail_if_success (have := qk9)); k_fold; (rename PySem.Flow → PySem.Shared → Prop => qk9); (rename PySem.Value → PySem.Shared → Prop => ek9)) | ((fail_if_success (have := qk10)); k_fold; (rename PySem.Flow → PySem.Shared → Prop => qk10); (rename PySem.Value → PySem.Shared → Prop => ek10)) | ((fail_if_success (have := qk11)); k_fold; (rename PySem.Flow → PySem.Shared → Prop => qk11); (rename PySem.Value → PySem.Shared → Prop => ek11)) | ((fail_if_success (have := qk12)); k_fold; (rename PySem.Flow → PySem.Shared → Prop => qk12); (rename PySem.Value → PySem.Shared → Prop => ek12)) | ((fail_if_success (have := qk13)); k_fold; (rename PySem.Flow → PySem.Shared → Prop => qk13); (rename PySem.Value → PySem.Shared → Prop => ek13)) | ((fail_if_success (have := qk14)); k_fold; (rename PySem.Flow → PySem.Shared → Prop => qk14); (rename PySem.Value → PySem.Shared → Prop => ek14)) | ((fail_if_success (have := qk15)); k_fold; (rename PySem.Flow → PySem.Shared → Prop => qk15); (rename PySem.Value → PySem.Shared → Prop => ek15)))))
  k_with "my m_tidy" => (((try clear qk15); (try clear ek15)); ((try clear qk14); (try clear ek14)); ((try clear qk13); (try clear ek13)); ((try clear qk12); (try clear ek12)); ((try clear qk11); (try clear ek11)); ((try clear qk10); (try clear ek10)); ((try clear qk9); (try clear ek9)); ((try clear qk8); (try clear ek8)); ((try clear qk7); (try clear ek7)); ((try clear qk6); (try clear ek6)); ((try clear qk5); (try clear ek5)); ((try clear qk4); (try clear ek4)); ((try clear qk3); (try clear ek3)); ((try clear qk2); (try clear ek2)); ((try clear qk1); (try clear ek1)); ((try clear qk0); (try clear ek0)))
  k_with "my execs cons" => (first | (k_here; k_gentoks) | (k_here; walk_at "m_fold") | (k_here; walk_at "m_tidy"; (with_reducible refine wpAny_execs_cons ?_); (try dsimp only); (try walk_at "m_fold")))
  trivial


set_option maxHeartbeats 8000000 in
theorem done_spec (w : World) (l : Addr) (os : List (Int × List Str)) (hok : ∀ o ∈ os, ordGood o) (hln : os.length ≤ 11) :
    Spec71 w 237 60 400 (fun h => ListAt h WordAt (.ref l) (os.map wordOf)) [.ref l] (fun h v => ListAt h TellIs v (os.foldl walkStep ([], [])).2) 74 39 := by
  intro p loose mean mg mb dp un gd cn cs a ccd cl outer A₀ base h₀ L m s Q E ps B F X T hk hd hu htb N hpre hret
  have hpre' : ListAt (hideAll s.heap [71]) WordAt (.ref l) (os.map wordOf) := ListAt.hide (N _ (.head _)).1 rfl (WordAt.hide (N _ (.head _)).1 rfl) hpre
  clear hpre
  walk_at "m_startT"
  intro g L' h₁ hg F' N' lt' B' X' T'
  (try dsimp only)
  replace F' : Fr g L' h₁ (fun y => List.lookup y [(Str.ofString "words", .ref l)]) := F'
  replace N' : News g L' h₁ [(71, tabObj ps)] := N'
  replace hg : hideAll s.heap [71] = g := hg
  rw [hg] at hpre'
  clear B F X T N
  replace lt' : 71 < L' := lt' _ (.head _)
  k_lt2 lt'
  refine hide ?_
  intro Gq hGq
  obtain ⟨_, vs, hl, hls, hvs⟩ := hpre'
  refine hGq ?_
  clear hGq Gq
  cases hl
  have hll := hvs.length
  rw [List.length_map] at hll
  try k_fold
  (all_goals try walk_at "m_fold")
  k_steps
  with_reducible rename Fr _ _ _ _ => F1
  with_reducible rename News _ _ _ _ => N1
  rename_i hA T hB lT hC
  refine hide ?_
  intro Gq hGq
  obtain ⟨m0, F1, e1, ⟨th, e2⟩, e3⟩ : ∃ m0, Fr g L' hC m0 ∧ m0 (Str.ofString "words") = some (.ref l) ∧ (∃ t, m0 (Str.ofString "here") = some (.str (Str.ofString "/") t)) ∧ m0 (Str.ofString "told") = some (.ref T) := ⟨_, F1, rfl, ⟨_, rfl⟩, rfl⟩
  refine hGq ?_
  clear hGq Gq
  refine Stop.go (wpAny_For (ld F1 e1 ?_))
  refine iter_list (fun i m news => ∃ (T : Addr) (tv : List Value) (n : Nat) (ps : Array Value), news = [(T, W.listOf tv.toArray n), (71, tabObj ps)] ∧ Tab1 74 39 ps ∧ 71 < T ∧ (∃ t, m (Str.ofString "here") = some (.str (pathOf ((os.take i).foldl walkStep ([], [])).1) t)) ∧ m (Str.ofString "told") = some (.ref T) ∧
      All2 (TellIs g) tv ((os.take i).foldl walkStep ([], [])).2 ∧ hereOk ((os.take i).foldl walkStep ([], [])).1 ∧ ((os.take i).foldl walkStep ([], [])).1.length ≤ 7 * i ∧ ((os.take i).foldl walkStep ([], [])).2.length ≤ i)
    rfl (hls.at (F1.keep _)) F1 N1 ⟨T, [], _, ps, rfl, htb, ?_, ⟨th, e2⟩, e3, .nil, (fun c hc => by cases hc), Nat.le_refl _, Nat.le_refl _⟩ ?_ ?_ ?_
  · exact lT
  · intro i m₁ news₁ h _ Fi _
    exact hls.at (Fi.keep _)
  · rintro i v m₁ news₁ h tk I oI hv hq0 hI hne hLI Fi Ni
    ((try dsimp only); (try walk_at "m_fold"))
    refine hide ?_
    intro Gq hGq
    obtain ⟨T, tv, n, ps', rfl, htb', hT, ⟨th, e2⟩, e3, htv, hho, hhl, htl⟩ := hq0
    refine hGq ?_
    clear hGq Gq
    refine hide ?_
    intro Gq hGq
    obtain ⟨o', ho', a', t', u', rfl, ht⟩ := hvs.get hv
    refine hGq ?_
    clear hGq Gq
    rw [List.getElem?_map] at ho'
    refine hide ?_
    intro Gq hGq
    obtain ⟨⟨kd, row⟩, ho, rfl⟩ := Option.map_eq_some_iff.mp ho'
    refine hGq ?_
    clear hGq Gq
    have hto := IsTup.keeps ht Fi.keep
    have hoo := hok _ (List.mem_of_getElem? ho)
    have hil : i < os.length := (List.getElem?_eq_some_iff.mp ho).1
    have hnx : (os.take (i + 1)).foldl walkStep ([], []) = walkStep ((os.take i).foldl walkStep ([], [])) (kd, row) := by
      rw [take_snoc ho, List.foldl_append]; rfl
    rw [hnx]
    generalize hst : (os.take i).foldl walkStep ([], []) = st at e2 htv hho hhl htl ⊢
    obtain ⟨here, told⟩ := st
    dsimp only at e2 htv hho hhl htl
    replace Fi : Fr g L' h _ := Fi
    replace Ni : News g L' h _ := Ni
    have hTI := neN (hne _ (.head _))
    have h7I := neN (hne _ (.tail _ (.head _)))
    dsimp only at hTI h7I
    k_lt hI
    k_lt2 hT
    have htvl := htv.length
    have hhl9 : here.length ≤ 100 := by omega
    have htv9 : tv.length ≤ 40 := by omega
    obtain ⟨hp1, hp4⟩ := path_len hho hhl9
    have hp5 : (pathOf here).length ≤ 65536 := by omega
    have hp6 : (pathOf here).length ≤ 1048576 := by omega
    dsimp only [wordOf] at ht hto
    clear hvs hv ht ho' hst hok hne
    rcases hoo.1 with ⟨hk0, hne0, hrl7, hpo⟩ | ⟨hk1, hne0, hrl3, hpo⟩
    · dsimp only at hk0
      subst hk0
      rw [if_pos rfl] at hto
      refine hide ?_
      intro Gq hGq
      obtain ⟨y, hy, hy1, hy2, hy3, hy4⟩ := go_law hho hhl9 hoo
      refine hGq ?_
      clear hGq Gq
      have hw := word_len hoo
      generalize Str.join (Str.ofString "/") row = wd at hto hy hw
      have hw5 : wd.length ≤ 65536 := by omega
      have ew : walkStep (here, told) (0, row) = (row.foldl stepPart (startOf here row), told ++ [.path (pathOf (row.foldl stepPart (startOf here row)))]) := by
        unfold walkStep
        rw [if_pos rfl]
      have hc1 := hereOk_fold row (startOf_ok hho row).1 hpo
      have hc2 := here_fold_len row (startOf here row)
      have hc3 := (startOf_ok hho row).2
      have hrl8 : row.length ≤ 7 := hrl7
      rw [ew]
      clear ew
      generalize row.foldl stepPart (startOf here row) = cur at hy4 hc1 hc2 ⊢
      (all_goals try walk_at "m_fold")
      k_steps
      with_reducible rename Fr _ _ _ _ => F2
      with_reducible rename News _ _ _ _ => N2
      rw [hy]
      refine Stop.go ?_
      refine' use0 (normpath_spec w y _ hy1 hy2 hy3) B' F2 X' N2 T' rfl ?kD ?kU trivial ?_
      case kD => ktr_room
      case kU => ktr_units
      rintro v2 h2 tk2 hk2 ⟨tq2, hv2⟩ F3 N3
      rw [hy4] at hv2
      subst hv2
      clear F2 N2 hk2 hy hy1 hy2 hy3 hy4
      (all_goals try walk_at "m_fold")
      k_steps
      with_reducible rename Fr _ _ _ _ => FE
      with_reducible rename News _ _ _ _ => NE
      refine TurnEnd.goS [(T, W.listOf (tv ++ [Value.str (pathOf cur) _]).toArray (n + 1)), (71, tabObj ps')] FE NE (by k_allIn) (ne2 hTI h7I) ⟨T, _, n + 1, ps', rfl, htb', hT, ⟨_, rfl⟩, e3, htv.snoc ⟨_, rfl⟩, hc1, ?_, ?_⟩
      · show cur.length ≤ _
        omega
      · rw [List.length_append, List.length_singleton]
        show told.length + 1 ≤ _
        omega
    · dsimp only at hk1
      subst hk1
      rw [if_neg (by decide)] at hto
      have ew : walkStep (here, told) (1, row) = (here, told ++ [.yes (fitsB row (lastOf here))]) := by
        unfold walkStep
        rw [if_neg (show ¬ ((1, row) : Int × List Str).1 = 0 from (by decide : ¬ (1 : Int) = 0))]
      have hlo := last_ok hho
      have hl2 : (lastOf here).length ≤ 2 := by
        rcases hlo with h | h
        · rw [h]; decide
        · exact (comp_len h).2
      rw [ew, ← asks_law hrl3 hpo hlo]
      clear ew
      have hbl := base_law hho hhl9
      (all_goals try walk_at "m_fold")
      k_steps
      with_reducible rename Fr _ _ _ _ => F2
      with_reducible rename News _ _ _ _ => N2
      rw [hbl]
      refine Stop.go ?_
      refine' use71 (takes_spec w row _ (lastOf here) _ _ rfl hl2 hrl3 hpo) B' F2 X' N2 T' rfl ?kD ?kU htb' ?U trivial ?_
      case kD => ktr_room
      case kU => ktr_units
      case U => k_updF
      rintro v2 h2 tk2 ps2 htb2 hk2 hv2 F3 N3
      try dsimp only at N3
      subst hv2
      clear F2 N2 hk2 hbl
      (all_goals try walk_at "m_fold")
      k_steps
      with_reducible rename Fr _ _ _ _ => FE
      with_reducible rename News _ _ _ _ => NE
      refine TurnEnd.goS [(T, W.listOf (tv ++ [Value.bool (takesB row (lastOf here))]).toArray (n + 1)), (71, tabObj ps2)] FE NE (by k_allIn) (ne2 hTI h7I) ⟨T, _, n + 1, ps2, rfl, htb2, hT, ⟨_, e2⟩, e3, htv.snoc rfl, hho, ?_, ?_⟩
      · show here.length ≤ _
        omega
      · rw [List.length_append, List.length_singleton]
        show told.length + 1 ≤ _
        omega
  · rintro m₁ news₁ h tk hq0 Fi Ni
    ((try dsimp only); (try walk_at "m_fold"))
    refine hide ?_
    intro Gq hGq
    obtain ⟨T, tv, n, ps', rfl, htb', hT, ⟨th, e2⟩, e3, htv, hho, hhl, htl⟩ := hq0
    refine hGq ?_
    clear hGq Gq
    rw [hll, List.take_of_length_le (Nat.le_refl _)] at htv
    replace Fi : Fr g L' h _ := Fi
    replace Ni : News g L' h _ := Ni
    (all_goals try walk_at "m_fold")
    k_steps
    with_reducible rename Fr _ _ _ _ => F7
    with_reducible rename News _ _ _ _ => N7
    exact hret _ _ _ ps' htb' (N7 (71, tabObj ps') (by k_mem)).1 (keptBut_of hg F7) ⟨T, tv, rfl, News.isList N7 (by k_mem), htv.mono fun a b x => by cases b <;> exact x⟩

theorem fillit_MRd : PySem.Challenge.rw_in0069_01 = PySem.Challenge.rw_in0069_01 ∧ hd.heap_39 = hd.heap_39 := by
  w_top off
  k_fill
  exact ⟨rfl, rfl⟩
/-- entering a def that a def has made -/
theorem enterN {prog : Program} {w : World} {A A₀ : Around} {s : Shared} {K : Frag} {L : Addr} {h₀ base : Heap} {m mg mb : Str → Option Value} {p : Program} {loose : List Str} {mean : ExcName → Option Value}
    {env : Env} {outer : List Env} {R : Result → Shared → Prop} {name qual : Str} {params : Arguments} {body : List Stmt} {scope : Scope} {cl : List (Str × Addr)} {doc pm ctv : Value} {c' f : Addr} {args : Args} {binds : List (Str × Value)} {tabs : List (Addr × Obj)}
    (B : Below A₀ base outer h₀) (F : Fr h₀ L s.heap m) (X₀ : K.In h₀) (T : Top p loose mean mg mb h₀) (N : News h₀ L s.heap tabs) (hA : A.frames = some (env :: outer)) (hf : env.frame = some L) (hke : env.scope.kind = .function)
    (ho : (f, fnMade name qual params body scope cl doc pm c' ctv) ∈ tabs) (hcd : s.heap.CodeRec (.ref c') qual) (hroom : A.depth < recursionLimit)
    (hbind : BindsTo s (fnX name qual params body scope cl .none .none doc pm none (.ref c') ctv) args binds) (hloc : ∀ y ∈ binds, scope.names.lookup y.1 = some .local)
    (h : ∀ g L' h₁ tk, hideAll s.heap (tabs.map (·.1)) = g → Fr g L' h₁ (fun y => binds.reverse.lookup y) → News g L' h₁ tabs → (∀ q ∈ tabs, q.1 < L') → Below A base (env :: outer) g → K.In g → Top p loose mean mg mb g →
      wpAny (model prog w) (A.deeper (envX qual scope L' f (.ref c') cl)) (execs body (envX qual scope L' f (.ref c') cl))
        (fun fl s' => R (.ok (.ret (match fl with | .ret v => v | _ => .none))) s')
        (fun e s' => wpAny (model prog w) (A.deeper (envX qual scope L' f (.ref c') cl)) (leaving (envX qual scope L' f (.ref c') cl) e) (fun _ s'' => R (.error e) s'') (fun e' s'' => R (.error e') s'') s')
        { s with heap := h₁, toks := tk })
    (hco : scope.isCoroutine = false) (hgen : scope.isGenerator = false) (hk : scope.kind = .function)
    (hcell : ∀ x ∈ scope.names, x.2 ≠ .cell) : codeAny (model prog w) A (.call (.ref f) args) R s := by
  obtain ⟨FG, BG, st, -⟩ := groundX (R := R) B F N hA hf hke
  refine codeAny_call_def (fd := fnX name qual params body scope cl .none .none doc pm none (.ref c') ctv) (body := body) (binds := binds) hroom (N _ ho).1 rfl (T.nolimit.keeps F.keep) hcd rfl hbind hcell hloc
    (fun h₁ hns hk₁ => ?_) hco hgen hk
  exact h _ s.heap.objs.size h₁ _ rfl ⟨hns, fun b o e => hk₁ b o (of_hideAll _ e), Nat.le_of_eq (hideAll_size _ _)⟩
    (fun p hp => ⟨hk₁ _ _ (N p hp).1, Nat.ne_of_lt (Heap.lt_size (N p hp).1), hideAll_none _ (List.mem_map_of_mem hp)⟩) (fun p hp => Heap.lt_size (N p hp).1) BG (X₀.keeps st) (T.keeps st)

/-- the def that the reader makes, by its place in the text -/
def FnRead (w : World) (params : Arguments) (body : List Stmt) (scope : Scope) : Prop :=
  ∃ oc od fd sl s0 nm dl rt tp dn pos rest, (hd.heap_39 w.params).lookup 213 = some ⟨oc, od, .func fd, sl⟩ ∧ fd.body = .stmts (s0 :: .FunctionDef nm params body dl rt tp scope dn nm pos :: rest)
abbrev readQual : Str := Str.ofString "_law_read.<locals>.read"
theorem look_inj {K : Frag} {a : Addr} {o o' : Obj} (h : K.lookup a = some o) (h' : K.lookup a = some o') : o = o' := Option.some.inj (h.symm.trans h')
/-- what a stream is made of -/
structure RdOk (w : World) (st D fr lst cL cc : Addr) (oD oc ocell rd : Obj) : Prop where
  ns : NsObj oD (readNs (.ref fr))
  fn : ∃ params body scope doc pm ctv, FnRead w params body scope ∧ rd = fnMade (Str.ofString "read") readQual params body scope [(Str.ofString "left", cL)] doc pm cc ctv
  code : CodeO readQual oc
  cell : ocell.data = .cell (some (.ref lst))
  apart : @Ne Nat lst D ∧ @Ne Nat lst st ∧ @Ne Nat lst fr ∧ @Ne Nat lst cL ∧ @Ne Nat lst cc
abbrev RdL (st D fr lst cL cc : Addr) (fdS : FuncData) (oD oc ocell rd : Obj) (bs : Array UInt8) (tb : Tok) (n : Nat) : List (Addr × Obj) :=
  [(lst, W.listOf #[.bytes bs tb] n), (D, oD), (st, fnObjD fdS D), (fr, rd), (cL, ocell), (cc, oc)]
theorem keptBut_tabs {h h' g : Heap} {P L' : Addr} {m : Str → Option Value} {tabs : List (Addr × Obj)} (hg : hideAll h (tabs.map (·.1)) = g) (F : Fr g L' h' m) (N0 : ∀ q ∈ tabs, h.get? q.1 = some q.2) (hs : ∀ q ∈ tabs, q.1 ≠ P → h'.get? q.1 = some q.2) : KeptBut P h h' := by
  intro b o hb e
  by_cases hm : b ∈ tabs.map (·.1)
  · obtain ⟨q, hq, rfl⟩ := List.mem_map.mp hm
    have := N0 q hq
    rw [e] at this
    cases this
    exact hs q hq hb
  · exact F.keep b o (hg ▸ hideAll_get _ e hm)
theorem take_min9 (l : List Int) (k : Nat) : l.take (min k l.length) = l.take k := by
  rcases Nat.le_total k l.length with h | h
  · rw [Nat.min_eq_left h]
  · rw [Nat.min_eq_right h, List.take_of_length_le h, List.take_length]
theorem drop_min9 (l : List Int) (k : Nat) : (l.drop (min k l.length)).take (l.length - min k l.length) = l.drop k := by
  rcases Nat.le_total k l.length with h | h
  · rw [Nat.min_eq_left h, List.take_of_length_le (by simp)]
  · rw [Nat.min_eq_right h, List.drop_of_length_le h]; simp


example : True := by
  k_with_none
  k_with "my m_enter" => ((refine' enter0 ?k1 ?k2 ?k3 ?k5 ?kA ?kF ?kK ?k6 ?k7 ?k8 ?k9 ?kB ?_ ?c2 ?c3 ?c4 ?c5; (case kA => exact rfl); (case kF => exact rfl); (case kK => assumption); (case k1 => k_asm); (case k2 => k_asm); (case k3 => k_asm); (case k5 => k_asm); (case k6 => k_is); (case k7 => k_is); (case k8 => ktr_room); (case k9 => exact BindsTo.of_eq rfl); (case c5 => decide); (case kB => exact locs rfl); (case c2 => exact rfl); (case c3 => exact rfl); (case c4 => exact rfl); k_whole))
  k_with "my call builtin:issubclass" => ((k_here; (with_reducible show wpAny _ _ (call _ [Value.type _, Value.ref _]) _ _ _); k_dflt (refine' call_iss ?k1 ?_; (case k1 => exact News.get (by k_asm) (by k_mem)))))
  k_with "my m_start" => ((refine wpAny_call ?_; k_dflt (walk_at "m_enter")))
  k_with "my m_use" => (((case kB => k_asm); (case kF => k_asm); (case kX => k_asm); (case kN => k_asm); (case kT => k_asm); (case kK => first | exact rfl | assumption); (case kD => ktr_room); (case kU => ktr_units)))
  k_with "my exec For Name Name cons nil" => ((k_here; refine Stop.out ?_))
  k_with "my exec For Tuple Name cons nil" => ((k_here; refine Stop.out ?_))
  k_with "my eval ListComp Call cons" => ((k_here; refine Stop.out ?_))
  k_with "my eval ListComp Name cons" => ((k_here; refine Stop.out ?_))
  k_with "my eval ListComp BinOp cons" => ((k_here; refine Stop.out ?_))
  k_with "my eval ListComp Tuple cons" => ((k_here; refine Stop.out ?_))
  k_with "my m_loc" => (first
  | exact rfl
  | with_reducible assumption
  | (refine Eq.trans (if_neg (by decide)) ?_; walk_at "m_loc")
  | ((with_reducible rename (∀ y : PySem.Str, y ≠ _ → _ = _) => hm9); refine Eq.trans (hm9 _ (by decide)) ?_; walk_at "m_loc"))
  k_with "my truthy ref" => ((k_here; (with_reducible show wpAny _ _ (truthy (Value.ref _)) _ _ _); k_dflt (refine' kgr_truthy ?N ?hm ?hc ?hd ?hf ?_; (case N => k_asm); (case hm => k_mem); (case hc => exact rfl); (case hd => exact rfl); (case hf => ((try simp only [strValues_length, List.length_append, List.length_cons, List.length_nil]); omega)); k_whole; (simp only [snoc_isEmpty, List.isEmpty_nil, Bool.not_true, Bool.not_false]))))
  k_with "my call builtin:list.append" => ((k_here; (with_reducible show wpAny _ _ (call (Value.builtin _) [Value.ref _, _]) _ _ _); k_dflt (refine' my_append ?F ?N ?U ?z ?_; (case F => k_asm); (case N => k_asm); (case U => k_upd); (case z => (rw [PySem.sizeLine_eq]; (try simp only [strValues_length, List.length_append, List.length_cons, List.length_nil]); omega)); k_whole; intro _ _ _; (try k_sweep))))
  k_with "my call builtin:list.pop" => ((k_here; (with_reducible show wpAny _ _ (call (Value.builtin _) [Value.ref _]) _ _ _); k_dflt (refine' my_pop ?F ?N ?U ?z ?_; (case F => k_asm); (case N => k_asm); (case U => k_upd); (case z => (rw [PySem.sizeLine_eq]; (try simp only [strValues_length, List.length_append, List.length_cons, List.length_nil]); omega)); k_whole; intro _ _ _; (try k_sweep))))
  k_with "my subscriptTail Name UnaryOp ref int" => ((k_here; (with_reducible show wpAny _ _ (subscriptTail _ _ (Value.ref _) (Value.int _ _)) _ _ _); k_dflt (refine' my_last ?N ?hm ?_; (case N => k_asm); (case hm => k_mem); k_whole)))
  k_with "my call builtin:str.join" => ((k_here; (with_reducible show wpAny _ _ (call (Value.builtin _) [Value.str _ _, Value.ref _]) _ _ _); k_dflt (refine' join_list (News.isList ?N ?hm) ?S ?ok ?_; (case N => k_asm); (case hm => k_mem); (case S => with_reducible assumption); (case ok => ((simp only [show (Str.ofString "/").length = 1 from rfl, show (Str.ofString "").length = 0 from rfl]); omega)); k_whole; intro _ _)))
  k_with "my binaryOp Add str str" => ((k_here; (with_reducible show wpAny _ _ (binaryOp Operator.Add (Value.str _ _) (Value.str _ _)) _ _ _); k_dflt (refine' SBL.add (hsz := ?z) ?_; (case z => (rw [PySem.sizeLine_eq]; (try simp only [show (Str.ofString "/").length = 1 from rfl]); omega)); k_whole; intro _ _)))
  k_with "my truthy str" => ((k_here; (with_reducible show wpAny _ _ (PySem.truthy (Value.str _ _)) _ _ _); k_dflt (refine' KXt.truthy_pos (K := 16777216) ?za ?zb (Nat.le_refl _) ?_; (case za => omega); (case zb => omega); k_whole; intro _)))
  k_with "my eval Name" => (((k_here; (with_reducible rename NsObj _ _ => nX9); k_dflt (refine' ldVarK (NsObj.ns nX9 (News.get ?N ?hm)) ?hv ?_; (case N => k_asm); (case hm => k_mem); (case hv => with_reducible assumption); k_whole)); (try walk_at "m_hX")))
  k_with "my call builtin:str.join" => ((k_here; (with_reducible show wpAny _ _ (call (Value.builtin _) [Value.str _ _, Value.ref _]) _ _ _); k_dflt (refine' join_list ?hl ?S ?ok ?_; (case hl => exact Heap.IsList.at (by with_reducible assumption) (Fr.keep (by k_asm) _)); (case S => with_reducible assumption); (case ok => ((simp only [show (Str.ofString "/").length = 1 from rfl, show (Str.ofString "").length = 0 from rfl]); omega)); k_whole; intro _ _)))
  k_with "my eval Name" => (((k_here; (with_reducible rename Fr _ _ _ _ => kF); (with_reducible rename NsObj _ _ => nX9); k_dflt (refine' nameG_B kF ?k1 ?k2 ?k3 ?k4 ?k5 ?_ ?k6 ?k7 ?k8 ?k9 ?k10; (case k1 => k_asm); (case k2 => k_asm); (case k3 => k_is); (case k4 => boot_by_name); (case k5 => decide); (case k6 => exact rfl); (case k7 => exact rfl); (case k8 => exact rfl); (case k9 => exact rfl); (case k10 => decide); k_whole)); (try walk_at "m_hF"); (try walk_at "m_hX")))
  k_with "my binaryOp Add ref ref" => ((k_here; (with_reducible show wpAny _ _ (binaryOp Operator.Add (Value.ref _) (Value.ref _)) _ _ _); k_dflt (refine' add_lists ?F ?N (News.isList ?N1 ?m1) (News.isList ?N2 ?m2) ?_ ?z; (case F => k_asm); (case N => k_asm); (case N1 => k_asm); (case m1 => k_mem); (case N2 => k_asm); (case m2 => k_mem); (case z => (rw [PySem.sizeLine_eq]; (try simp only [List.length_append, List.length_cons, List.length_nil]); omega)); k_whole; intro _ _ _; (try k_sweep))))
  k_with "my call builtin:len" => ((k_here; (with_reducible show wpAny _ _ (call _ [Value.ref _]) _ _ _); k_dflt (refine' len_list ?hl ?hf ?_; (case hl => exact Heap.IsList.at (by with_reducible assumption) (Fr.keep (by k_asm) _)); (case hf => ((simp only [List.size_toArray]); omega)); k_whole; (try simp only [List.size_toArray]))))
  k_with "my call type:bytes" => ((k_here; (with_reducible show wpAny _ _ (call (Value.type _) [Value.ref _]) _ _ _); k_dflt (refine' bytes_K ?F ?N (News.isList ?N1 ?m1) ?i ?r ?z ?h ?_; (case F => k_asm); (case N => k_asm); (case N1 => k_asm); (case m1 => k_mem); (case i => with_reducible assumption); (case r => with_reducible assumption); (case z => (rw [PySem.sizeLine_eq]; omega)); (case h => exact rfl); k_whole; intro _ _ _ _ _ _; (try k_sweep))))
  k_with "my eval Name" => (((k_here; (with_reducible rename Fr _ _ _ _ => kF); k_dflt (refine' nameX_L kF ?k2 ?_ ?a ?b; (case b => exact rfl); (case a => exact rfl); (case k2 => walk_at "m_loc"); k_whole); (try dsimp only)); (try walk_at "m_hF")))
  k_with "my eval Name" => (((k_here; (with_reducible rename News _ _ _ _ => kN); k_dflt (refine' nameX_C kN ?hc ?hm ?hd ?_ ?a ?b; (case b => exact rfl); (case a => exact rfl); (case hc => exact rfl); (case hm => k_mem); (case hd => with_reducible assumption); k_whole)); (try walk_at "m_hN")))
  k_with "my m_enterC" => ((refine' enterC0 ?k1 ?k2 ?k3 ?k5 ?kA ?kF ?kK ?k6 ?k7 ?k8 ?k9 ?kB ?kD ?_ ?c2 ?c3 ?c4; (case kA => exact rfl); (case kF => exact rfl); (case kK => assumption); (case k1 => k_asm); (case k2 => k_asm); (case k3 => k_asm); (case k5 => k_asm); (case k6 => k_is); (case k7 => k_is); (case k8 => ktr_room); (case k9 => exact BindsTo.of_eq rfl); (case kB => exact rfl); (case kD => decide +kernel); (case c2 => exact rfl); (case c3 => exact rfl); (case c4 => exact rfl); k_whole))
  k_with "my m_startC" => ((refine wpAny_call ?_; k_dflt (walk_at "m_enterC")))
  k_with "my exec For Name Subscript cons nil" => ((k_here; refine Stop.out ?_))
  k_with "my exec For Name Call cons nil" => ((k_here; refine Stop.out ?_))
  k_with "my pyIter ref" => ((k_here; refine Stop.out ?_))
  k_with "my subscriptTail Name Slice ref ref" => ((k_here; (with_reducible show wpAny _ _ (subscriptTail _ (PySem.Expr.Slice none none (some _) _) (Value.ref _) (Value.ref _)) _ _ _); k_dflt (refine' my_rev ?F ?N ?l ?k ?_ ?s ?t ?z; (case F => k_asm); (case N => k_asm); (case l => exact Heap.IsList.at (by with_reducible assumption) (Fr.keep (by k_asm) _)); (case k => exact IsPart.int _ _); (case s => with_unfolding_all rfl); (case t => kmk_pure); (case z => (rw [PySem.sizeLine_eq]; omega))); k_whole; walk_at "m_i5"))
  k_with "my call type:range" => (((k_here; (with_reducible show wpAny _ _ (call (Value.type _) [Value.int _ _]) _ _ _); (with_reducible rename Fr _ _ _ _ => kF); (with_reducible rename News _ _ _ _ => kN); k_dflt (refine' range1_rows kF kN ?_; k_whole; intro _ _ _ _ _ _ _ _ _)); (try walk_at "m_hF"); (try walk_at "m_hN")))
  k_with "my eval Name" => (((k_here; (with_reducible rename NsObj _ _ => nX9); (with_reducible rename News _ _ _ _ => kN); k_dflt (refine' ldFreeK ?hc ?hv ?_ ?hk ?hl; (case hl => exact rfl); (case hk => exact rfl); (case hc => exact rfl); (case hv => exact ⟨_, News.get kN (by k_mem), by with_reducible assumption⟩); k_whole)); (try walk_at "m_hN"); (try walk_at "m_hX")))
  k_with "my compareOp NotEq ref ref" => ((k_here; (with_reducible show wpAny _ _ (compareOp CmpOp.NotEq (Value.ref _) (Value.ref _)) _ _ _); k_dflt (refine' my_neE (News.isList ?N1 ?m1) ?i1 (News.isList ?N2 ?m2) ?u ?_; (case N1 => k_asm); (case m1 => k_mem); (case i1 => with_reducible assumption); (case N2 => k_asm); (case m2 => k_mem); (case u => units_room); k_whole; (try simp only [List.isEmpty_cons, List.isEmpty_nil, Bool.not_true, Bool.not_false]))))
  k_with "my call builtin:max" => ((k_here; (with_reducible show wpAny _ _ (call (Value.builtin _) [Value.ref _]) _ _ _); k_dflt (refine' kso_max ?F ?N (News.isList ?N1 ?m1) ?i1 ?z ?hh ?_; (case F => k_asm); (case N => k_asm); (case N1 => k_asm); (case m1 => k_mem); (case i1 => with_reducible assumption); (case z => (simp only [List.length_cons]; omega)); (case hh => with_unfolding_all rfl); k_whole; intro _ _ _ _ _ _ _ _)))
  k_with "my call builtin:min" => ((k_here; (with_reducible show wpAny _ _ (call (Value.builtin _) [Value.ref _]) _ _ _); k_dflt (refine' kso_min ?F ?N (News.isList ?N1 ?m1) ?i1 ?z ?hh ?_; (case F => k_asm); (case N => k_asm); (case N1 => k_asm); (case m1 => k_mem); (case i1 => with_reducible assumption); (case z => (simp only [List.length_cons]; omega)); (case hh => with_unfolding_all rfl); k_whole; intro _ _ _ _ _ _ _ _)))
  k_with "my m_enterCT" => ((refine' enterCT ?k1 ?k2 ?k3 ?k5 ?kN ?kA ?kF ?kK ?k6 ?k7 ?k8 ?k9 ?kB ?kD ?_ ?c2 ?c3 ?c4; (case kA => exact rfl); (case kF => exact rfl); (case kK => assumption); (case k1 => k_asm); (case k2 => k_asm); (case k3 => k_asm); (case kN => k_asm); (case k5 => k_asm); (case k6 => k_is); (case k7 => k_is); (case k8 => ktr_room); (case k9 => exact BindsTo.of_eq rfl); (case kB => exact rfl); (case kD => decide +kernel); (case c2 => exact rfl); (case c3 => exact rfl); (case c4 => exact rfl); k_whole))
  k_with "my m_startCT" => ((refine wpAny_call ?_; k_dflt (walk_at "m_enterCT")))
  k_with "my setAttr ref" => ((k_here; k_dflt (refine' setattr_K ?F ?N ?U ?_; (case F => k_asm); (case N => k_asm); (case U => k_updF); k_whole); walk_at "m_i8"))
  k_with "my getMethod ref" => ((k_here; k_dflt (refine' getread_K ?N ?h1 ?h2 ?hn ?h3 ?_; (case N => k_asm); (case h1 => k_mem); (case h2 => k_mem); (case hn => with_reducible assumption); (case h3 => k_mem); k_whole); intro _))
  k_with "my exec FunctionDef" => ((k_here; k_dflt (refine' nestDef_K ?d0 ?k0 ?a0 ?_; (case d0 => exact rfl); (case k0 => exact rfl); (case a0 => exact rfl)); refine Stop.out ?_))
  k_with "my eval Lambda" => ((k_here; k_dflt (refine' kla_eval ?d0 ?_; (case d0 => exact rfl)); refine Stop.out ?_))
  k_with "my m_enterN" => ((refine' enterN ?k1 ?k2 ?k3 ?k5 ?kN ?kA ?kF ?kK ?k6 ?k7 ?k8 ?k9 ?kB ?_ ?c2 ?c3 ?c4 ?c5; (case kA => exact rfl); (case kF => exact rfl); (case kK => assumption); (case k1 => k_asm); (case k2 => k_asm); (case k3 => k_asm); (case kN => k_asm); (case k5 => k_asm); (case k6 => k_mem); (case k7 => assumption); (case k8 => ktr_room); (case k9 => exact BindsTo.of_eq rfl); (case c5 => decide); (case kB => exact locs rfl); (case c2 => exact rfl); (case c3 => exact rfl); (case c4 => exact rfl); k_whole))
  k_with "my eval Name" => (k_here; dsimp only)
  k_with "my eval Constant int" => (k_here; dsimp only)
  k_with "my eval Constant str" => (k_here; dsimp only)
  k_with "my m_fold" => (((first | (with_reducible show wpAny _ _ (PySem.execs _ _) _ _ _) | (with_reducible show wpAny _ _ (PySem.exec _ _) _ _ _)); (first | ((fail_if_success (have := qk0)); k_fold; (rename PySem.Flow → PySem.Shared → Prop => qk0); (rename PySem.Value → PySem.Shared → Prop => ek0)) | ((fail_if_success (have := qk1)); k_fold; (rename PySem.Flow → PySem.Shared → Prop => qk1); (rename PySem.Value → PySem.Shared → Prop => ek1)) | ((fail_if_success (have := qk2)); k_fold; (rename PySem.Flow → PySem.Shared → Prop => qk2); (rename PySem.Value → PySem.Shared → Prop => ek2)) | ((fail_if_success (have := qk3)); k_fold; (rename PySem.Flow → PySem.Shared → Prop => qk3); (rename PySem.Value → PySem.Shared → Prop => ek3)) | ((fail_if_success (have := qk4)); k_fold; (rename PySem.Flow → PySem.Shared → Prop => qk4); (rename PySem.Value → PySem.Shared → Prop => ek4)) | ((fail_if_success (have := qk5)); k_fold; (rename PySem.Flow → PySem.Shared → Prop => qk5); (rename PySem.Value → PySem.Shared → Prop => ek5)) | ((fail_if_success (have := qk6)); k_fold; (rename PySem.Flow → PySem.Shared → Prop => qk6); (rename PySem.Value → PySem.Shared → Prop => ek6)) | ((fail_if_success (have := qk7)); k_fold; (rename PySem.Flow → PySem.Shared → Prop => qk7); (rename PySem.Value → PySem.Shared → Prop => ek7)) | ((fail_if_success (have := qk8)); k_fold; (rename PySem.Flow → PySem.Shared → Prop => qk8); (rename PySem.Value → PySem.Shared → Prop => ek8)) | ((fail_if_success (have := qk9)); k_fold; (rename PySem.Flow → PySem.Shared → Prop => qk9); (rename PySem.Value → PySem.Shared → Prop => ek9)) | ((fail_if_success (have := qk10)); k_fold; (rename PySem.Flow → PySem.Shared → Prop => qk10); (rename PySem.Value → PySem.Shared → Prop => ek10)) | ((fail_if_success (have := qk11)); k_fold; (rename PySem.Flow → PySem.Shared → Prop => qk11); (rename PySem.Value → PySem.Shared → Prop => ek11)) | ((fail_if_success (have := qk12)); k_fold; (rename PySem.Flow → PySem.Shared → Prop => qk12); (rename PySem.Value → PySem.Shared → Prop => ek12)) | ((fail_if_success (have := qk13)); k_fold; (rename PySem.Flow → PySem.Shared → Prop => qk13); (rename PySem.Value → PySem.Shared → Prop => ek13)) | ((fail_if_success (have := qk14)); k_fold; (rename PySem.Flow → PySem.Shared → Prop => qk14); (rename PySem.Value → PySem.Shared → Prop => ek14)) | ((fail_if_success (have := qk15)); k_fold; (rename PySem.Flow → PySem.Shared → Prop => qk15); (rename PySem.Value → PySem.Shared → Prop => ek15)))))
  k_with "my m_tidy" => (((try clear qk15); (try clear ek15)); ((try clear qk14); (try clear ek14)); ((try clear qk13); (try clear ek13)); ((try clear qk12); (try clear ek12)); ((try clear qk11); (try clear ek11)); ((try clear qk10); (try clear ek10)); ((try clear qk9); (try clear ek9)); ((try clear qk8); (try clear ek8)); ((try clear qk7); (try clear ek7)); ((try clear qk6); (try clear ek6)); ((try clear qk5); (try clear ek5)); ((try clear qk4); (try clear ek4)); ((try clear qk3); (try clear ek3)); ((try clear qk2); (try clear ek2)); ((try clear qk1); (try clear ek1)); ((try clear qk0); (try clear ek0)))
  k_with "my execs cons" => (first | (k_here; k_gentoks) | (k_here; walk_at "m_fold") | (k_here; walk_at "m_tidy"; (with_reducible refine wpAny_execs_cons ?_); (try dsimp only); (try walk_at "m_fold")))
  trivial

set_option maxHeartbeats 8000000 in
theorem rd_spec (w : World) (st D fr lst cL cc : Addr) (fdS : FuncData) (oD oc ocell rd : Obj) (bs : Array UInt8) (ks : List Int) (tb tk₀ : Tok) (n k : Nat) (hbi : KBw.bInts bs = ks) (hks : ks.length ≤ 25000) (hk1 : k ≤ 255) (ok : RdOk w st D fr lst cL cc oD oc ocell rd)
    (p : Program) (loose : List Str) (mean : ExcName → Option Value) (mg mb : Str → Option Value) (dp un : Nat) (gd : Option (List Code)) (cn : Str) (cs : Scope) (a : Addr) (ccd : Value) (cl : List (Str × Addr))
    (outer : List Env) (A₀ : Around) (base h₀ : Heap) (L : Addr) (m : Str → Option Value) (s : Shared) (Q E : Value → Shared → Prop) 
    (B : Below A₀ base outer h₀) (F : Fr h₀ L s.heap m) (X : (hd.heap_39 w.params).In h₀) (T : Top p loose mean mg mb h₀) (hk : cs.kind = .function) (hd : dp + 4 < recursionLimit) (hu : un + 40 < cLine)
    (N : News h₀ L s.heap (RdL st D fr lst cL cc fdS oD oc ocell rd bs tb n))
    (hret : ∀ h' tk' b1 b2 t1 t2, KBw.bInts b1 = ks.take k → KBw.bInts b2 = ks.drop k → KeptBut lst s.heap h' → h'.get? lst = some (W.listOf #[.bytes b2 t2] n) → Q (.bytes b1 t1) { s with heap := h', toks := tk' }) :
    wpAny (model PP w) (ktrTop dp un gd cn cs L a ccd cl outer) (call (.ref fr) [.int (k : Int) tk₀]) Q E s := by
  obtain ⟨hns, ⟨params, body, scope, doc, pm, ctv, hfn, rfl⟩, hcode, hcell, a1, a2, a3, a4, a5⟩ := ok
  obtain ⟨oc', od', fd', sl', s0, nm, dl, rt, tp, dn, pos, rest, hl, hb⟩ := hfn
  have e9 := look_inj hl (by k_is)
  cases e9
  cases hb
  have hcd : s.heap.CodeRec (.ref cc) readQual := by
    obtain ⟨vs, t, e1, e2⟩ := hcode
    exact ⟨cc, oc, vs, t, rfl, (N (cc, oc) (by k_mem)).1, e1, e2⟩
  refine wpAny_call ?_
  k_dflt (walk_at "m_enterN")
  intro g L' h₁ tk hg F' N' lt' B' X' T'
  (try dsimp only)
  replace N' : News g L' h₁ [(lst, W.listOf #[.bytes bs tb] n), (D, oD), (st, fnObjD fdS D), (fr, _), (cL, ocell), (cc, oc)] := N'
  have C : CodeHd g 212 210 := codeHd_of_K X' (by kernel_rfl)
  have N0 : ∀ q ∈ RdL st D fr lst cL cc fdS oD oc ocell (fnMade (Str.ofString "read") readQual _ _ _ [(Str.ofString "left", cL)] doc pm cc ctv) bs tb n, s.heap.get? q.1 = some q.2 := fun q hq => (N q hq).1
  clear B F X T N hns hcd lt'
  (all_goals try walk_at "m_fold")
  k_steps
  with_reducible rename Fr _ _ _ _ => F7
  with_reducible rename News _ _ _ _ => N7
  refine hret _ _ _ _ _ _ ?_ ?_ (keptBut_tabs hg F7 N0 ?_) (N7 _ (List.Mem.head _)).1
  · exact (by assumption : KBw.bInts (KBy.picked bs none (some (k : Int))) = _).trans (take_min9 _ _)
  · exact (by assumption : KBw.bInts (KBy.picked bs (some (k : Int)) none) = _).trans (drop_min9 _ _)
  · intro q hq hne
    rcases List.mem_cons.mp hq with rfl | hq
    · exact absurd rfl hne
    · exact (N7 q (.tail _ hq)).1

theorem fillit_MUint : PySem.Challenge.rw_in0069_01 = PySem.Challenge.rw_in0069_01 ∧ hd.heap_39 = hd.heap_39 := by
  w_top off
  k_fill
  exact ⟨rfl, rfl⟩
abbrev frs (l : List Env) : List Addr := l.filterMap (·.frame)
/-- what reading from a stream gives back, or how it is thrown -/
abbrev RdSpec (w : World) (f : Addr) (d u : Nat) (ks : List Int) (good : Value → List Int → Prop) (bad : Prop) : Prop :=
  ∀ (st D fr lst cL cc : Addr) (fdS : FuncData) (oD oc ocell rd : Obj) (bs : Array UInt8) (tb : Tok) (n : Nat)
    (p : Program) (loose : List Str) (mean : ExcName → Option Value) (mg mb : Str → Option Value) (dp un : Nat) (gd : Option (List Code)) (cn : Str) (cs : Scope) (a : Addr) (ccd : Value) (cl : List (Str × Addr))
    (outer : List Env) (A₀ : Around) (base h₀ : Heap) (L : Addr) (m : Str → Option Value) (s : Shared) (Q E : Value → Shared → Prop),
    RdOk w st D fr lst cL cc oD oc ocell rd → KBw.bInts bs = ks → Below A₀ base outer h₀ → Fr h₀ L s.heap m → (hd.heap_39 w.params).In h₀ → Top p loose mean mg mb h₀ → cs.kind = .function → dp + d < recursionLimit → un + u < cLine →
    News h₀ L s.heap (RdL st D fr lst cL cc fdS oD oc ocell rd bs tb n) →
    (∀ v h' tk' b2 ks2 t2, good v ks2 → KBw.bInts b2 = ks2 → KeptBut lst s.heap h' → h'.get? lst = some (W.listOf #[.bytes b2 t2] n) → Q v { s with heap := h', toks := tk' }) →
    (bad → ∀ e a0 h' tk', Heap.FlyingW (hideAll s.heap (lst :: frs (envX cn cs L a ccd cl :: outer))) (envX cn cs L a ccd cl :: outer) e (.type "ValueError") a0 h' → (hideAll s.heap [lst]).UpToSlots h' → E (.ref e) { s with heap := h', toks := tk' }) →
    wpAny (model PP w) (ktrTop dp un gd cn cs L a ccd cl outer) (call (.ref f) [.ref st]) Q E s
theorem leave_mine {M : Model} {A : Around} {E : Value → Shared → Prop} {s' : Shared} {base g h : Heap} {outer : List Env} {L a e : Addr} {m : Str → Option Value} {name : Str} {scope : Scope} {cd : Value} {Q : Unit → Shared → Prop} {cls : String}
    (K : Below A base outer g) (hx : Heap.NewExc h s'.heap e cls) (F : Fr g L h m)
    (hQ : ∀ h' a0, Heap.FlyingW (hideAll h (frs (envOf name scope L a cd :: outer))) outer e (.type cls) a0 h' → h.UpToSlots h' → Q () { s' with heap := h' }) (hk : scope.kind = .function := by rfl) :
    wpAny M (A.deeper (envOf name scope L a cd)) (leaving (envOf name scope L a cd) (.ref e)) Q E s' := by
  have K' := K.push (name := name) (a := a) (cd := cd) F hk
  have hin : ∀ env ∈ (envOf name scope L a cd :: outer), ∀ b, env.frame = some b → b ∈ frs (envOf name scope L a cd :: outer) := fun env he b hb => List.mem_filterMap.mpr ⟨env, he, hb⟩
  obtain ⟨ob, tp, he, hcls, hd⟩ := hx.there
  have hen : (hideAll h (frs (envOf name scope L a cd :: outer))).get? e = none := by
    cases q : (hideAll h (frs (envOf name scope L a cd :: outer))).get? e with
    | none => rfl
    | some o => have := of_hideAll _ q; rw [hx.new] at this; cases this
  refine wpAny_leaving_firstW (a0 := tp) K'.stack ((funFrames_hide K'.frames hin).of_keeps fun b o hb _ => ⟨o, hx.keeps b o hb, rfl⟩) rfl he (fun b o hb => hx.keeps b o (of_hideAll _ hb)) hen hd rfl rfl fun h' hL => ?_
  obtain ⟨k1, ⟨_, _, k2⟩, k3, k4⟩ := hL
  exact hQ h' tp ⟨k1, hen, k2, by rw [← hcls]; exact k3⟩ ((Heap.UpToSlots.of_keeps hx.keeps).trans k4)
theorem mem_frs {env : Env} {l : List Env} {b : Addr} (h : b ∈ frs (env :: l)) : env.frame = some b ∨ b ∈ frs l := by
  obtain ⟨e, he, hf⟩ := List.mem_filterMap.mp h
  rcases List.mem_cons.mp he with rfl | he
  · exact .inl hf
  · exact .inr (List.mem_filterMap.mpr ⟨e, he, hf⟩)
/-- thrown out of a def that has changed one object: what stands stays -/
theorem fly_out {h h1 h' g : Heap} {lst L' e : Addr} {m : Str → Option Value} {tabs : List (Addr × Obj)} {envU : Env} {l : List Env} {cls a0 : Value} (hg : hideAll h (tabs.map (·.1)) = g) (F : Fr g L' h1 m) (hU : envU.frame = some L') (k : KeptBut lst h h1)
    (x : Heap.FlyingW (hideAll h1 (frs (envU :: l))) l e cls a0 h') : Heap.FlyingW (hideAll h (lst :: frs l)) l e cls a0 h' := by
  refine flyingW_base (fun b o e1 => ?_) x
  have e2 := of_hideAll _ e1
  have hb : b ∉ lst :: frs l := fun q => by rw [hideAll_none _ q] at e1; cases e1
  refine hideAll_get _ (k b o (fun q => hb (q ▸ .head _)) e2) fun q => ?_
  rcases mem_frs q with q | q
  · rw [hU] at q
    cases q
    have h2 := F.above
    rw [← hg, hideAll_size] at h2
    exact absurd (Heap.lt_size e2) (Nat.not_lt.mpr h2)
  · exact hb (.tail _ q)
theorem ups_out {h h1 h' : Heap} {lst : Addr} (k : KeptBut lst h h1) (U : h1.UpToSlots h') : (hideAll h [lst]).UpToSlots h' :=
  (Heap.UpToSlots.of_keeps fun b o e => k b o (fun q => by rw [q, hideAll_none _ (.head _)] at e; cases e) (of_hideAll _ e)).trans U
theorem fr_but {h₀ h h' : Heap} {L P : Addr} {m : Str → Option Value} (F : Fr h₀ L h m) (hP : h₀.get? P = none) (hL : P ≠ L) (k : KeptBut P h h') : Fr h₀ L h' m :=
  ⟨F.ns.at' fun o e => k _ o hL.symm e, fun b o e => k b o (fun q => by rw [q, hP] at e; cases e) (F.keep b o e), F.above⟩
theorem news_but {h₀ h h' : Heap} {L P : Addr} {o o' : Obj} {news : List (Addr × Obj)} {gn : Obj → List (Addr × Obj)} (N : News h₀ L h news) (U : UpdF P o news gn) (k : KeptBut P h h') (e : h'.get? P = some o') : News h₀ L h' (gn o') := by
  obtain ⟨own, rest, rfl, hgr, h1, h2⟩ := U.split
  have hm := N (P, o) (List.mem_append_right _ (.head _))
  intro q hq
  rw [hgr] at hq
  rcases List.mem_append.mp hq with hq | hq
  · have n := N q (List.mem_append_left _ hq)
    exact ⟨k _ _ (h1 q hq) n.1, n.2⟩
  · rcases List.mem_cons.mp hq with rfl | hq
    · exact ⟨e, hm.2⟩
    · have n := N q (List.mem_append_right _ (.tail _ hq))
      exact ⟨k _ _ (h2 q hq) n.1, n.2⟩
theorem updF_mem {P : Addr} {o : Obj} : ∀ {news : List (Addr × Obj)} {gn : Obj → List (Addr × Obj)}, UpdF P o news gn → (P, o) ∈ news
  | _, _, .head _ => .head _
  | _, _, .tail _ r => .tail _ (updF_mem r)
section
variable {w : World} {st D fr lst cL cc : Addr} {fdS : FuncData} {oD oc ocell rd : Obj} {bs : Array UInt8} {ks : List Int} {tb tk₀ : Tok} {n k : Nat}
    {p : Program} {loose : List Str} {mean : ExcName → Option Value} {mg mb : Str → Option Value} {dp un : Nat} {gd : Option (List Code)} {cn : Str} {cs : Scope} {a : Addr} {ccd : Value} {cl : List (Str × Addr)}
    {outer : List Env} {A₀ : Around} {base h₀ : Heap} {L : Addr} {m : Str → Option Value} {s : Shared} {Q E : Value → Shared → Prop} {news : List (Addr × Obj)} {gn : Obj → List (Addr × Obj)}
theorem useRd1 (B : Below A₀ base outer h₀) (F : Fr h₀ L s.heap m) (X : (hd.heap_39 w.params).In h₀) (T : Top p loose mean mg mb h₀) (N : News h₀ L s.heap news) (hbi : KBw.bInts bs = ks) (hks : ks.length ≤ 25000) (hk1 : k ≤ 255) (ok : RdOk w st D fr lst cL cc oD oc ocell rd)
    (hk : cs.kind = .function) (hd : dp + 4 < recursionLimit) (hu : un + 40 < cLine) (hmem : ∀ q ∈ RdL st D fr lst cL cc fdS oD oc ocell rd bs tb n, q ∈ news) (U : UpdF lst (W.listOf #[.bytes bs tb] n) news gn)
    (hret : ∀ h' tk' b1 b2 t1 t2, KBw.bInts b1 = ks.take k → KBw.bInts b2 = ks.drop k → KeptBut lst s.heap h' → Fr h₀ L h' m → News h₀ L h' (gn (W.listOf #[.bytes b2 t2] n)) → Q (.bytes b1 t1) { s with heap := h', toks := tk' }) :
    wpAny (model PP w) (ktrTop dp un gd cn cs L a ccd cl outer) (call (.ref fr) [.int (k : Int) tk₀]) Q E s := by
  have hm := N _ (updF_mem U)
  exact rd_spec w st D fr lst cL cc fdS oD oc ocell rd bs ks tb tk₀ n k hbi hks hk1 ok p loose mean mg mb dp un gd cn cs a ccd cl outer A₀ base h₀ L m s Q E B F X T hk hd hu (fun q hq => N q (hmem q hq))
    fun h' tk' b1 b2 t1 t2 e1 e2 kb el => hret h' tk' b1 b2 t1 t2 e1 e2 kb (fr_but F hm.2.2 hm.2.1 kb) (news_but N U kb el)
theorem useRd {f : Addr} {d u : Nat} {good : Value → List Int → Prop} {bad : Prop} (S : RdSpec w f d u ks good bad) (B : Below A₀ base outer h₀) (F : Fr h₀ L s.heap m) (X : (hd.heap_39 w.params).In h₀) (T : Top p loose mean mg mb h₀) (N : News h₀ L s.heap news) (hbi : KBw.bInts bs = ks) (ok : RdOk w st D fr lst cL cc oD oc ocell rd)
    (hk : cs.kind = .function) (hd : dp + d < recursionLimit) (hu : un + u < cLine) (hmem : ∀ q ∈ RdL st D fr lst cL cc fdS oD oc ocell rd bs tb n, q ∈ news) (U : UpdF lst (W.listOf #[.bytes bs tb] n) news gn)
    (hret : ∀ v h' tk' b2 ks2 t2, good v ks2 → KBw.bInts b2 = ks2 → KeptBut lst s.heap h' → Fr h₀ L h' m → News h₀ L h' (gn (W.listOf #[.bytes b2 t2] n)) → Q v { s with heap := h', toks := tk' })
    (hbad : bad → ∀ e a0 h' tk', Heap.FlyingW (hideAll s.heap (lst :: frs (envX cn cs L a ccd cl :: outer))) (envX cn cs L a ccd cl :: outer) e (.type "ValueError") a0 h' → (hideAll s.heap [lst]).UpToSlots h' → E (.ref e) { s with heap := h', toks := tk' }) :
    wpAny (model PP w) (ktrTop dp un gd cn cs L a ccd cl outer) (call (.ref f) [.ref st]) Q E s := by
  have hm := N _ (updF_mem U)
  exact S st D fr lst cL cc fdS oD oc ocell rd bs tb n p loose mean mg mb dp un gd cn cs a ccd cl outer A₀ base h₀ L m s Q E ok hbi B F X T hk hd hu (fun q hq => N q (hmem q hq))
    (fun v h' tk' b2 ks2 t2 e1 e2 kb el => hret v h' tk' b2 ks2 t2 e1 e2 kb (fr_but F hm.2.2 hm.2.1 kb) (news_but N U kb el)) hbad
end


example : True := by
  k_with_none
  k_with "my m_enter" => ((refine' enter0 ?k1 ?k2 ?k3 ?k5 ?kA ?kF ?kK ?k6 ?k7 ?k8 ?k9 ?kB ?_ ?c2 ?c3 ?c4 ?c5; (case kA => exact rfl); (case kF => exact rfl); (case kK => assumption); (case k1 => k_asm); (case k2 => k_asm); (case k3 => k_asm); (case k5 => k_asm); (case k6 => k_is); (case k7 => k_is); (case k8 => ktr_room); (case k9 => exact BindsTo.of_eq rfl); (case c5 => decide); (case kB => exact locs rfl); (case c2 => exact rfl); (case c3 => exact rfl); (case c4 => exact rfl); k_whole))
  k_with "my call builtin:issubclass" => ((k_here; (with_reducible show wpAny _ _ (call _ [Value.type _, Value.ref _]) _ _ _); k_dflt (refine' call_iss ?k1 ?_; (case k1 => exact News.get (by k_asm) (by k_mem)))))
  k_with "my m_start" => ((refine wpAny_call ?_; k_dflt (walk_at "m_enter")))
  k_with "my m_use" => (((case kB => k_asm); (case kF => k_asm); (case kX => k_asm); (case kN => k_asm); (case kT => k_asm); (case kK => first | exact rfl | assumption); (case kD => ktr_room); (case kU => ktr_units)))
  k_with "my exec For Name Name cons nil" => ((k_here; refine Stop.out ?_))
  k_with "my exec For Tuple Name cons nil" => ((k_here; refine Stop.out ?_))
  k_with "my eval ListComp Call cons" => ((k_here; refine Stop.out ?_))
  k_with "my eval ListComp Name cons" => ((k_here; refine Stop.out ?_))
  k_with "my eval ListComp BinOp cons" => ((k_here; refine Stop.out ?_))
  k_with "my eval ListComp Tuple cons" => ((k_here; refine Stop.out ?_))
  k_with "my m_loc" => (first
  | exact rfl
  | with_reducible assumption
  | (refine Eq.trans (if_neg (by decide)) ?_; walk_at "m_loc")
  | ((with_reducible rename (∀ y : PySem.Str, y ≠ _ → _ = _) => hm9); refine Eq.trans (hm9 _ (by decide)) ?_; walk_at "m_loc"))
  k_with "my truthy ref" => ((k_here; (with_reducible show wpAny _ _ (truthy (Value.ref _)) _ _ _); k_dflt (refine' kgr_truthy ?N ?hm ?hc ?hd ?hf ?_; (case N => k_asm); (case hm => k_mem); (case hc => exact rfl); (case hd => exact rfl); (case hf => ((try simp only [strValues_length, List.length_append, List.length_cons, List.length_nil]); omega)); k_whole; (simp only [snoc_isEmpty, List.isEmpty_nil, Bool.not_true, Bool.not_false]))))
  k_with "my call builtin:list.append" => ((k_here; (with_reducible show wpAny _ _ (call (Value.builtin _) [Value.ref _, _]) _ _ _); k_dflt (refine' my_append ?F ?N ?U ?z ?_; (case F => k_asm); (case N => k_asm); (case U => k_upd); (case z => (rw [PySem.sizeLine_eq]; (try simp only [strValues_length, List.length_append, List.length_cons, List.length_nil]); omega)); k_whole; intro _ _ _; (try k_sweep))))
  k_with "my call builtin:list.pop" => ((k_here; (with_reducible show wpAny _ _ (call (Value.builtin _) [Value.ref _]) _ _ _); k_dflt (refine' my_pop ?F ?N ?U ?z ?_; (case F => k_asm); (case N => k_asm); (case U => k_upd); (case z => (rw [PySem.sizeLine_eq]; (try simp only [strValues_length, List.length_append, List.length_cons, List.length_nil]); omega)); k_whole; intro _ _ _; (try k_sweep))))
  k_with "my subscriptTail Name UnaryOp ref int" => ((k_here; (with_reducible show wpAny _ _ (subscriptTail _ _ (Value.ref _) (Value.int _ _)) _ _ _); k_dflt (refine' my_last ?N ?hm ?_; (case N => k_asm); (case hm => k_mem); k_whole)))
  k_with "my call builtin:str.join" => ((k_here; (with_reducible show wpAny _ _ (call (Value.builtin _) [Value.str _ _, Value.ref _]) _ _ _); k_dflt (refine' join_list (News.isList ?N ?hm) ?S ?ok ?_; (case N => k_asm); (case hm => k_mem); (case S => with_reducible assumption); (case ok => ((simp only [show (Str.ofString "/").length = 1 from rfl, show (Str.ofString "").length = 0 from rfl]); omega)); k_whole; intro _ _)))
  k_with "my binaryOp Add str str" => ((k_here; (with_reducible show wpAny _ _ (binaryOp Operator.Add (Value.str _ _) (Value.str _ _)) _ _ _); k_dflt (refine' SBL.add (hsz := ?z) ?_; (case z => (rw [PySem.sizeLine_eq]; (try simp only [show (Str.ofString "/").length = 1 from rfl]); omega)); k_whole; intro _ _)))
  k_with "my truthy str" => ((k_here; (with_reducible show wpAny _ _ (PySem.truthy (Value.str _ _)) _ _ _); k_dflt (refine' KXt.truthy_pos (K := 16777216) ?za ?zb (Nat.le_refl _) ?_; (case za => omega); (case zb => omega); k_whole; intro _)))
  k_with "my eval Name" => (((k_here; (with_reducible rename NsObj _ _ => nX9); k_dflt (refine' ldVarK (NsObj.ns nX9 (News.get ?N ?hm)) ?hv ?_; (case N => k_asm); (case hm => k_mem); (case hv => with_reducible assumption); k_whole)); (try walk_at "m_hX")))
  k_with "my call builtin:str.join" => ((k_here; (with_reducible show wpAny _ _ (call (Value.builtin _) [Value.str _ _, Value.ref _]) _ _ _); k_dflt (refine' join_list ?hl ?S ?ok ?_; (case hl => exact Heap.IsList.at (by with_reducible assumption) (Fr.keep (by k_asm) _)); (case S => with_reducible assumption); (case ok => ((simp only [show (Str.ofString "/").length = 1 from rfl, show (Str.ofString "").length = 0 from rfl]); omega)); k_whole; intro _ _)))
  k_with "my eval Name" => (((k_here; (with_reducible rename Fr _ _ _ _ => kF); (with_reducible rename NsObj _ _ => nX9); k_dflt (refine' nameG_B kF ?k1 ?k2 ?k3 ?k4 ?k5 ?_ ?k6 ?k7 ?k8 ?k9 ?k10; (case k1 => k_asm); (case k2 => k_asm); (case k3 => k_is); (case k4 => boot_by_name); (case k5 => decide); (case k6 => exact rfl); (case k7 => exact rfl); (case k8 => exact rfl); (case k9 => exact rfl); (case k10 => decide); k_whole)); (try walk_at "m_hF"); (try walk_at "m_hX")))
  k_with "my binaryOp Add ref ref" => ((k_here; (with_reducible show wpAny _ _ (binaryOp Operator.Add (Value.ref _) (Value.ref _)) _ _ _); k_dflt (refine' add_lists ?F ?N (News.isList ?N1 ?m1) (News.isList ?N2 ?m2) ?_ ?z; (case F => k_asm); (case N => k_asm); (case N1 => k_asm); (case m1 => k_mem); (case N2 => k_asm); (case m2 => k_mem); (case z => (rw [PySem.sizeLine_eq]; (try simp only [List.length_append, List.length_cons, List.length_nil]); omega)); k_whole; intro _ _ _; (try k_sweep))))
  k_with "my call builtin:len" => ((k_here; (with_reducible show wpAny _ _ (call _ [Value.ref _]) _ _ _); k_dflt (refine' len_list ?hl ?hf ?_; (case hl => exact Heap.IsList.at (by with_reducible assumption) (Fr.keep (by k_asm) _)); (case hf => ((simp only [List.size_toArray]); omega)); k_whole; (try simp only [List.size_toArray]))))
  k_with "my call type:bytes" => ((k_here; (with_reducible show wpAny _ _ (call (Value.type _) [Value.ref _]) _ _ _); k_dflt (refine' bytes_K ?F ?N (News.isList ?N1 ?m1) ?i ?r ?z ?h ?_; (case F => k_asm); (case N => k_asm); (case N1 => k_asm); (case m1 => k_mem); (case i => with_reducible assumption); (case r => with_reducible assumption); (case z => (rw [PySem.sizeLine_eq]; omega)); (case h => exact rfl); k_whole; intro _ _ _ _ _ _; (try k_sweep))))
  k_with "my eval Name" => (((k_here; (with_reducible rename Fr _ _ _ _ => kF); k_dflt (refine' nameX_L kF ?k2 ?_ ?a ?b; (case b => exact rfl); (case a => exact rfl); (case k2 => walk_at "m_loc"); k_whole); (try dsimp only)); (try walk_at "m_hF")))
  k_with "my eval Name" => (((k_here; (with_reducible rename News _ _ _ _ => kN); k_dflt (refine' nameX_C kN ?hc ?hm ?hd ?_ ?a ?b; (case b => exact rfl); (case a => exact rfl); (case hc => exact rfl); (case hm => k_mem); (case hd => with_reducible assumption); k_whole)); (try walk_at "m_hN")))
  k_with "my m_enterC" => ((refine' enterC0 ?k1 ?k2 ?k3 ?k5 ?kA ?kF ?kK ?k6 ?k7 ?k8 ?k9 ?kB ?kD ?_ ?c2 ?c3 ?c4; (case kA => exact rfl); (case kF => exact rfl); (case kK => assumption); (case k1 => k_asm); (case k2 => k_asm); (case k3 => k_asm); (case k5 => k_asm); (case k6 => k_is); (case k7 => k_is); (case k8 => ktr_room); (case k9 => exact BindsTo.of_eq rfl); (case kB => exact rfl); (case kD => decide +kernel); (case c2 => exact rfl); (case c3 => exact rfl); (case c4 => exact rfl); k_whole))
  k_with "my m_startC" => ((refine wpAny_call ?_; k_dflt (walk_at "m_enterC")))
  k_with "my exec For Name Subscript cons nil" => ((k_here; refine Stop.out ?_))
  k_with "my exec For Name Call cons nil" => ((k_here; refine Stop.out ?_))
  k_with "my pyIter ref" => ((k_here; refine Stop.out ?_))
  k_with "my subscriptTail Name Slice ref ref" => ((k_here; (with_reducible show wpAny _ _ (subscriptTail _ (PySem.Expr.Slice none none (some _) _) (Value.ref _) (Value.ref _)) _ _ _); k_dflt (refine' my_rev ?F ?N ?l ?k ?_ ?s ?t ?z; (case F => k_asm); (case N => k_asm); (case l => exact Heap.IsList.at (by with_reducible assumption) (Fr.keep (by k_asm) _)); (case k => exact IsPart.int _ _); (case s => with_unfolding_all rfl); (case t => kmk_pure); (case z => (rw [PySem.sizeLine_eq]; omega))); k_whole; walk_at "m_i5"))
  k_with "my call type:range" => (((k_here; (with_reducible show wpAny _ _ (call (Value.type _) [Value.int _ _]) _ _ _); (with_reducible rename Fr _ _ _ _ => kF); (with_reducible rename News _ _ _ _ => kN); k_dflt (refine' range1_rows kF kN ?_; k_whole; intro _ _ _ _ _ _ _ _ _)); (try walk_at "m_hF"); (try walk_at "m_hN")))
  k_with "my eval Name" => (((k_here; (with_reducible rename NsObj _ _ => nX9); (with_reducible rename News _ _ _ _ => kN); k_dflt (refine' ldFreeK ?hc ?hv ?_ ?hk ?hl; (case hl => exact rfl); (case hk => exact rfl); (case hc => exact rfl); (case hv => exact ⟨_, News.get kN (by k_mem), by with_reducible assumption⟩); k_whole)); (try walk_at "m_hN"); (try walk_at "m_hX")))
  k_with "my compareOp NotEq ref ref" => ((k_here; (with_reducible show wpAny _ _ (compareOp CmpOp.NotEq (Value.ref _) (Value.ref _)) _ _ _); k_dflt (refine' my_neE (News.isList ?N1 ?m1) ?i1 (News.isList ?N2 ?m2) ?u ?_; (case N1 => k_asm); (case m1 => k_mem); (case i1 => with_reducible assumption); (case N2 => k_asm); (case m2 => k_mem); (case u => units_room); k_whole; (try simp only [List.isEmpty_cons, List.isEmpty_nil, Bool.not_true, Bool.not_false]))))
  k_with "my call builtin:max" => ((k_here; (with_reducible show wpAny _ _ (call (Value.builtin _) [Value.ref _]) _ _ _); k_dflt (refine' kso_max ?F ?N (News.isList ?N1 ?m1) ?i1 ?z ?hh ?_; (case F => k_asm); (case N => k_asm); (case N1 => k_asm); (case m1 => k_mem); (case i1 => with_reducible assumption); (case z => (simp only [List.length_cons]; omega)); (case hh => with_unfolding_all rfl); k_whole; intro _ _ _ _ _ _ _ _)))
  k_with "my call builtin:min" => ((k_here; (with_reducible show wpAny _ _ (call (Value.builtin _) [Value.ref _]) _ _ _); k_dflt (refine' kso_min ?F ?N (News.isList ?N1 ?m1) ?i1 ?z ?hh ?_; (case F => k_asm); (case N => k_asm); (case N1 => k_asm); (case m1 => k_mem); (case i1 => with_reducible assumption); (case z => (simp only [List.length_cons]; omega)); (case hh => with_unfolding_all rfl); k_whole; intro _ _ _ _ _ _ _ _)))
  k_with "my m_enterCT" => ((refine' enterCT ?k1 ?k2 ?k3 ?k5 ?kN ?kA ?kF ?kK ?k6 ?k7 ?k8 ?k9 ?kB ?kD ?_ ?c2 ?c3 ?c4; (case kA => exact rfl); (case kF => exact rfl); (case kK => assumption); (case k1 => k_asm); (case k2 => k_asm); (case k3 => k_asm); (case kN => k_asm); (case k5 => k_asm); (case k6 => k_is); (case k7 => k_is); (case k8 => ktr_room); (case k9 => exact BindsTo.of_eq rfl); (case kB => exact rfl); (case kD => decide +kernel); (case c2 => exact rfl); (case c3 => exact rfl); (case c4 => exact rfl); k_whole))
  k_with "my m_startCT" => ((refine wpAny_call ?_; k_dflt (walk_at "m_enterCT")))
  k_with "my setAttr ref" => ((k_here; k_dflt (refine' setattr_K ?F ?N ?U ?_; (case F => k_asm); (case N => k_asm); (case U => k_updF); k_whole); walk_at "m_i8"))
  k_with "my getMethod ref" => ((k_here; k_dflt (refine' getread_K ?N ?h1 ?h2 ?hn ?h3 ?_; (case N => k_asm); (case h1 => k_mem); (case h2 => k_mem); (case hn => with_reducible assumption); (case h3 => k_mem); k_whole); intro _))
  k_with "my exec FunctionDef" => ((k_here; k_dflt (refine' nestDef_K ?d0 ?k0 ?a0 ?_; (case d0 => exact rfl); (case k0 => exact rfl); (case a0 => exact rfl)); refine Stop.out ?_))
  k_with "my eval Lambda" => ((k_here; k_dflt (refine' kla_eval ?d0 ?_; (case d0 => exact rfl)); refine Stop.out ?_))
  k_with "my m_enterT" => ((refine' enterT ?k1 ?k2 ?k3 ?k5 ?kN ?kA ?kF ?kK ?k6 ?k7 ?k8 ?k9 ?kB ?_ ?c2 ?c3 ?c4 ?c5; (case kA => exact rfl); (case kF => exact rfl); (case kK => assumption); (case k1 => k_asm); (case k2 => k_asm); (case k3 => k_asm); (case kN => k_asm); (case k5 => k_asm); (case k6 => k_is); (case k7 => k_is); (case k8 => ktr_room); (case k9 => exact BindsTo.of_eq rfl); (case c5 => decide); (case kB => exact locs rfl); (case c2 => exact rfl); (case c3 => exact rfl); (case c4 => exact rfl); k_whole))
  k_with "my m_startT" => ((refine wpAny_call ?_; k_dflt (walk_at "m_enterT")))
  k_with "my exec Raise some none" => ((k_here; refine Raise_new rfl ?_))
  k_with "my leaving ref" => ((k_here; (refine' leave_mine ?k1 ?k0 ?k2 ?_; (case k0 => assumption); (case k1 => assumption); (case k2 => assumption); k_whole; walk_at "m_lv4")))
  k_with "my eval Name" => (k_here; dsimp only)
  k_with "my eval Constant int" => (k_here; dsimp only)
  k_with "my eval Constant str" => (k_here; dsimp only)
  k_with "my m_fold" => (((first | (with_reducible show wpAny _ _ (PySem.execs _ _) _ _ _) | (with_reducible show wpAny _ _ (PySem.exec _ _) _ _ _)); (first | ((fail_if_success (have := qk0)); k_fold; (rename PySem.Flow → PySem.Shared → Prop => qk0); (rename PySem.Value → PySem.Shared → Prop => ek0)) | ((fail_if_success (have := qk1)); k_fold; (rename PySem.Flow → PySem.Shared → Prop => qk1); (rename PySem.Value → PySem.Shared → Prop => ek1)) | ((fail_if_success (have := qk2)); k_fold; (rename PySem.Flow → PySem.Shared → Prop => qk2); (rename PySem.Value → PySem.Shared → Prop => ek2)) | ((fail_if_success (have := qk3)); k_fold; (rename PySem.Flow → PySem.Shared → Prop => qk3); (rename PySem.Value → PySem.Shared → Prop => ek3)) | ((fail_if_success (have := qk4)); k_fold; (rename PySem.Flow → PySem.Shared → Prop => qk4); (rename PySem.Value → PySem.Shared → Prop => ek4)) | ((fail_if_success (have := qk5)); k_fold; (rename PySem.Flow → PySem.Shared → Prop => qk5); (rename PySem.Value → PySem.Shared → Prop => ek5)) | ((fail_if_success (have := qk6)); k_fold; (rename PySem.Flow → PySem.Shared → Prop => qk6); (rename PySem.Value → PySem.Shared → Prop => ek6)) | ((fail_if_success (have := qk7)); k_fold; (rename PySem.Flow → PySem.Shared → Prop => qk7); (rename PySem.Value → PySem.Shared → Prop => ek7)) | ((fail_if_success (have := qk8)); k_fold; (rename PySem.Flow → PySem.Shared → Prop => qk8); (rename PySem.Value → PySem.Shared → Prop => ek8)) | ((fail_if_success (have := qk9)); k_fold; (rename PySem.Flow → PySem.Shared → Prop => qk9); (rename PySem.Value → PySem.Shared → Prop => ek9)) | ((fail_if_success (have := qk10)); k_fold; (rename PySem.Flow → PySem.Shared → Prop => qk10); (rename PySem.Value → PySem.Shared → Prop => ek10)) | ((fail_if_success (have := qk11)); k_fold; (rename PySem.Flow → PySem.Shared → Prop => qk11); (rename PySem.Value → PySem.Shared → Prop => ek11)) | ((fail_if_success (have := qk12)); k_fold; (rename PySem.Flow → PySem.Shared → Prop => qk12); (rename PySem.Value → PySem.Shared → Prop => ek12)) | ((fail_if_success (have := qk13)); k_fold; (rename PySem.Flow → PySem.Shared → Prop => qk13); (rename PySem.Value → PySem.Shared → Prop => ek13)) | ((fail_if_success (have := qk14)); k_fold; (rename PySem.Flow → PySem.Shared → Prop => qk14); (rename PySem.Value → PySem.Shared → Prop => ek14)) | ((fail_if_success (have := qk15)); k_fold; (rename PySem.Flow → PySem.Shared → Prop => qk15); (rename PySem.Value → PySem.Shared → Prop => ek15)))))
  k_with "my m_tidy" => (((try clear qk15); (try clear ek15)); ((try clear qk14); (try clear ek14)); ((try clear qk13); (try clear ek13)); ((try clear qk12); (try clear ek12)); ((try clear qk11); (try clear ek11)); ((try clear qk10); (try clear ek10)); ((try clear qk9); (try clear ek9)); ((try clear qk8); (try clear ek8)); ((try clear qk7); (try clear ek7)); ((try clear qk6); (try clear ek6)); ((try clear qk5); (try clear ek5)); ((try clear qk4); (try clear ek4)); ((try clear qk3); (try clear ek3)); ((try clear qk2); (try clear ek2)); ((try clear qk1); (try clear ek1)); ((try clear qk0); (try clear ek0)))
  k_with "my execs cons" => (first | (k_here; k_gentoks) | (k_here; walk_at "m_fold") | (k_here; walk_at "m_tidy"; (with_reducible refine wpAny_execs_cons ?_); (try dsimp only); (try walk_at "m_fold")))
  trivial

set_option maxHeartbeats 8000000 in
theorem uint_spec (w : World) (ks : List Int) (hks : ks.length ≤ 25000) : RdSpec w 45 12 80 ks (fun v k2 => ∃ x t, ks = x :: k2 ∧ v = .int x t) (ks = []) := by
  intro st D fr lst cL cc fdS oD oc ocell rd bs tb n p loose mean mg mb dp un gd cn cs a ccd cl outer A₀ base h₀ L m s Q E ok hbi B F X T hk hd hu N hret hbad
  walk_at "m_startT"
  intro g L' h₁ hg F' N' lt' B' X' T'
  (try dsimp only)
  have C : CodeHd g 212 210 := codeHd_of_K X' (by kernel_rfl)
  have hns := ok.ns
  obtain ⟨params, body, scope, doc, pm, ctv, hfn, hrd⟩ := ok.fn
  have N0 : ∀ q ∈ RdL st D fr lst cL cc fdS oD oc ocell rd bs tb n, s.heap.get? q.1 = some q.2 := fun q hq => (N q hq).1
  subst hrd
  replace N' : News g L' h₁ [(lst, W.listOf #[.bytes bs tb] n), (D, oD), (st, fnObjD fdS D), (fr, _), (cL, ocell), (cc, oc)] := N'
  clear B F X T N
  (all_goals try walk_at "m_fold")
  k_steps
  with_reducible rename Fr _ _ _ _ => F1
  with_reducible rename News _ _ _ _ => N1
  obtain ⟨a1, a2, a3, a4, a5⟩ := ok.apart
  refine useRd1 (k := 1) (bs := bs) (tb := tb) (n := n) (fdS := fdS) B' F1 X' T' N1 hbi hks (by decide) ok rfl ?kD ?kU (fun q hq => hq) (.head ?kk) ?_
  case kD => ktr_room
  case kU => ktr_units
  case kk => k_all
  intro h2 tk2 b1 b2 t1 t2 e1 e2 kb F2 N2
  clear F1 N1
  replace N2 : News g L' h2 [(lst, W.listOf #[.bytes b2 t2] n), (D, oD), (st, fnObjD fdS D), (fr, _), (cL, ocell), (cc, oc)] := N2
  have same : ∀ {h7 : Heap} {m7 : Str → Option Value} {b7 : Array UInt8} {t7 : Tok}, Fr g L' h7 m7 → News g L' h7 [(lst, W.listOf #[.bytes b7 t7] n), (D, oD), (st, fnObjD fdS D), (fr, _), (cL, ocell), (cc, oc)] → KeptBut lst s.heap h7 := fun F7 N7 =>
    keptBut_tabs hg F7 N0 fun q hq hne => by
      rcases List.mem_cons.mp hq with rfl | hq
      · exact absurd rfl hne
      · exact (N7 q (.tail _ hq)).1
  rcases ks with _ | ⟨x, kr⟩
  · replace e1 : KBw.bInts b1 = [] := e1
    (all_goals try walk_at "m_fold")
    k_steps
    with_reducible rename Fr _ _ _ _ => F7
    with_reducible rename News _ _ _ _ => N7
    with_reducible rename Heap.FlyingW _ _ _ _ _ _ => R7
    with_reducible rename Heap.UpToSlots _ _ => U7
    exact hbad rfl _ _ _ _ (fly_out hg F7 rfl (same F7 N7) R7) (ups_out (same F7 N7) U7)
  · replace e1 : KBw.bInts b1 = [x] := e1
    replace e2 : KBw.bInts b2 = kr := e2
    (all_goals try walk_at "m_fold")
    k_steps
    · with_reducible rename Fr _ _ _ _ => F7
      with_reducible rename News _ _ _ _ => N7
      exact hret _ _ _ _ _ _ ⟨x, _, rfl, rfl⟩ e2 (same F7 N7) (N7 _ (List.Mem.head _)).1
    · exact absurd (show 0 < [x].length from Nat.one_pos) (by assumption)

section
open PySem PySem.W PySem.Calls PyProof.Rows PySem.Builtin
theorem road_latin {id : String} {b : Array UInt8} : _codecs.decodeRoad id b (PySem.Str.ofString "latin-1") none [] = (_codecs.runDecoder id _codecs.latin1Decoder none true b 0 [] >>= fun r => mkStr ⟨r.1⟩) := by kernel_rfl
theorem latin_entry {c : UInt8} {cs : List UInt8} {t tk : Tok} : «bytes.decode» ⟨[.bytes (c :: cs).toArray t, .str (PySem.Str.ofString "latin-1") tk], []⟩ = (mkStr (PySem.Str.ofString "utf-8") >>= fun _ => mkStr (PySem.Str.ofString "latin-1") >>= fun e => mkStr (PySem.Str.ofString "bytes.decode") >>= fun d =>
    call (.builtin "_codecs.decode.text") [.bytes (c :: cs).toArray t, e, .none, d] >>= fun v => ret v) := by kernel_rfl
theorem latin_empty {t tk : Tok} : «bytes.decode» ⟨[.bytes #[] t, .str (PySem.Str.ofString "latin-1") tk], []⟩ = (rule "bytes.decode.empty" >>= fun _ => retStr Str.empty) := by kernel_rfl
theorem latin_find (b : Array UInt8) (p : Nat) : _codecs.latin1Decoder.find true b p = _codecs.Found.text [(b.getD p 0).toNat] (p + 1) := rfl
theorem run_latin {id : String} {b : Array UInt8} (hb : b.size ≤ sizeLine) : _codecs.runDecoder id _codecs.latin1Decoder none true b 0 [] = pure (b.map (·.toNat), b.size) := by
  unfold _codecs.runDecoder
  dsimp only
  rw [Std.Legacy.Range.forIn_eq_forIn_range']
  have hr : List.range' ([:b.size] : Std.Legacy.Range).start ([:b.size] : Std.Legacy.Range).size ([:b.size] : Std.Legacy.Range).step = List.range b.size := by
    rw [List.range_eq_range']; simp [Std.Legacy.Range.size]
  rw [hr]
  have key : ∀ (k : Nat) (hk : k ≤ b.size) (f : Nat → (Nat × Array Nat × _codecs.Faults) → Sem (ForInStep (Nat × Array Nat × _codecs.Faults))),
      (∀ x p out st, p < b.size → out.size ≤ sizeLine → f x (p, out, st) = pure (ForInStep.yield (p + 1, out ++ [(b.getD p 0).toNat].toArray, st))) →
      ∀ (l : List Nat), l.length = b.size - k → forIn l (k, ((b.toList.take k).map (·.toNat)).toArray, ({ held := [] } : _codecs.Faults)) f = (pure (b.size, (b.toList.map (·.toNat)).toArray, { held := [] }) : Sem _) := by
    intro k hk f hf l
    induction l generalizing k with
    | nil =>
      intro hl
      have : k = b.size := by simp at hl; omega
      subst this
      rw [List.forIn_nil, List.take_of_length_le (by simp)]
    | cons x l ih =>
      intro hl
      have hlt : k < b.size := by simp at hl; omega
      rw [List.forIn_cons, hf x k _ _ hlt (by simp; omega), pure_bind]
      have e : ((b.toList.take k).map (·.toNat)).toArray ++ [(b.getD k 0).toNat].toArray = ((b.toList.take (k + 1)).map (·.toNat)).toArray := by
        rw [List.take_add_one]
        simp [hlt]
      rw [e]
      exact ih (k + 1) hlt (by simp at hl; omega)
  have h0 := key 0 (Nat.zero_le _)
  simp only [List.take_zero, List.map_nil] at h0
  rw [h0 _ ?hf _ (by simp)]
  case hf =>
    intro x p out st hp ho
    rw [if_neg (Nat.not_lt.mpr ho), if_neg (Nat.not_le.mpr hp), latin_find]
  rw [pure_bind]
  have e : b.map (·.toNat) = (b.toList.map (·.toNat)).toArray := by
    obtain ⟨l⟩ := b
    simp
  rw [e]
theorem meets_latin {b : Array UInt8} {t t1 t2 : Tok} {d : PySem.Str} :
    Meets («_codecs.decode.text» ⟨[.bytes b t, .str (PySem.Str.ofString "latin-1") t1, .none, .str d t2], []⟩) (fun _ R s => b.size ≤ sizeLine ∧ R (.ok (.ret (.str ⟨b.map (·.toNat)⟩ s.toks))) { s with toks := s.toks + 1 }) := by
  refine .of_wp fun prog w A R s hS => ?_
  obtain ⟨hsz, h⟩ := hS
  show wpAny _ _ (Bytes.bytesLike _ (.bytes b t) >>= fun r => _) _ _ s
  refine wpAny_bind (wpAny_of_eq KBd.like_eq ?_)
  refine wpAny_bind (wpAny_of_eq KBd.held_eq ?_)
  show wpAny _ _ (_codecs.decodeRoad _ b (PySem.Str.ofString "latin-1") none [] >>= fun v => _) _ _ s
  rw [road_latin, run_latin hsz]
  refine wpAny_bind (wpAny_bind (wpAny_pure ?_))
  exact wpAny_mkStr (wpAny_pure ⟨_, rfl, h⟩) (show (b.map (·.toNat)).size ≤ sizeLine by rw [Array.size_map]; exact hsz)
theorem meets_dec {b : Array UInt8} {t tk : Tok} : Meets («bytes.decode» ⟨[.bytes b t, .str (PySem.Str.ofString "latin-1") tk], []⟩) (fun _ R s => b.size ≤ sizeLine ∧ ∀ t' k, R (.ok (.ret (.str ⟨b.map (·.toNat)⟩ t'))) { s with toks := k }) := by
  refine .of_wp fun prog w A R s hS => ?_
  obtain ⟨hsz, h⟩ := hS
  obtain ⟨l⟩ := b
  cases l with
  | nil =>
    show wpAny _ _ («bytes.decode» ⟨[.bytes #[] t, .str (PySem.Str.ofString "latin-1") tk], []⟩) _ _ _
    rw [latin_empty]
    refine wpAny_bind (wpAny_rule ?_)
    unfold retStr
    refine wpAny_bind (wpAny_mkStr (wpAny_pure ⟨_, rfl, ?_⟩) (by decide))
    have e : (⟨(⟨[]⟩ : Array UInt8).map (·.toNat)⟩ : Str) = Str.empty := by simp [Str.empty]
    rw [e] at h
    exact h _ _
  | cons c cs =>
    show wpAny _ _ («bytes.decode» ⟨[.bytes (c :: cs).toArray t, .str (PySem.Str.ofString "latin-1") tk], []⟩) _ _ _
    rw [latin_entry]
    refine wpAny_bind (wpAny_mkStr ?_ (by decide))
    refine wpAny_bind (wpAny_mkStr ?_ (by decide))
    refine wpAny_bind (wpAny_mkStr ?_ (by decide))
    exact wpAny_bind (call_function_meets KBd.kind_text KBd.plain_text KBd.entry_text (KBd.args_text _ _ _ _) meets_latin ⟨hsz, wpAny_pure ⟨_, rfl, h _ _⟩⟩)
theorem args_dec2 (a b : Value) : argsOk "bytes.decode" ⟨[a, b], []⟩ := by unfold argsOk; kernel_rfl
theorem call_latin {prog : Program} {w : World} {A : Around} {E : Value → Shared → Prop} {s : Shared} {b : Array UInt8} {ks : List Int} {t tk : Tok} {Q : Value → Shared → Prop} (hk : KBw.bInts b = ks) (hs : ks.length ≤ 16777216)
    (h : ∀ t' k, Q (.str ⟨(ks.map Int.toNat).toArray⟩ t') { s with toks := k }) : wpAny (model prog w) A (call (.builtin "bytes.decode") [.bytes b t, .str (PySem.Str.ofString "latin-1") tk]) Q E s := by
  refine call_meets FB.slot_bytes_decode (typeIs_bytes _ _ _) FB.entry_bytes_decode (args_dec2 _ _) meets_dec ⟨?_, fun t' k => ?_⟩
  · rw [← KBw.ints_length, hk, sizeLine_eq]; exact hs
  · have e : b.map (·.toNat) = (ks.map Int.toNat).toArray := by
      rw [← hk]
      unfold KBw.bInts
      rw [List.map_map]
      have e2 : (Int.toNat ∘ fun c : UInt8 => (c.toNat : Int)) = fun c : UInt8 => c.toNat := by funext c; simp
      rw [e2]
      obtain ⟨l⟩ := b
      simp
    rw [e] at *
    exact h t' k
end

set_option maxHeartbeats 8000000 in
theorem fmt_two {prog : Program} {w : World} {A : Around} {E : Value → Shared → Prop} {s : Shared} {h₀ : Heap} {L D : Addr} {news : List (Addr × Obj)} {a b : Int} {ta tb tk : Tok} {Q : Value → Shared → Prop} (N : News h₀ L s.heap news) (hm : (D, tupObj #[.int a ta, .int b tb]) ∈ news)
    (ha : 0 ≤ a ∧ a < 1000) (hb : 0 ≤ b ∧ b < 30000) (h : ∀ x t k, Q (.str x t) { s with toks := k }) :
    wpAny (model prog w) A (binaryOp .Mod (.str (Str.ofString "expected %d bytes in a string1, but only %d remain") tk) (.ref D)) Q E s := by
  refine' KPt.mod_tuple ?kptN ?kptb ?kptF ?kptm ?_
  case kptN => exact N
  case kptb => exact hm
  case kptF => kpt_eq
  case kptm => kpt_run
  intro t k
  exact h _ _ _

theorem fillit_MStr1 : PySem.Challenge.rw_in0069_01 = PySem.Challenge.rw_in0069_01 ∧ hd.heap_39 = hd.heap_39 := by
  w_top off
  k_fill
  exact ⟨rfl, rfl⟩
theorem leave_onMine {M : Model} {A : Around} {E : Value → Shared → Prop} {s' : Shared} {base G g : Heap} {outer : List Env} {L a e : Addr} {name : Str} {scope : Scope} {cd cls a0 : Value} {Q : Unit → Shared → Prop}
    (K : Below A base outer g) (x : Heap.FlyingW G (envOf name scope L a cd :: outer) e cls a0 s'.heap)
    (hQ : ∀ h', Heap.FlyingW G outer e cls a0 h' → s'.heap.UpToSlots h' → Q () { s' with heap := h' }) :
    wpAny M (A.deeper (envOf name scope L a cd)) (leaving (envOf name scope L a cd) (.ref e)) Q E s' :=
  wpAny_leaves_onW (Around.frames_deeper K.stack) rfl x hQ
theorem fly_out2 {h h1 h' g : Heap} {lst L' e : Addr} {m : Str → Option Value} {tabs : List (Addr × Obj)} {envU : Env} {l : List Env} {cls a0 : Value} (hg : hideAll h (tabs.map (·.1)) = g) (F : Fr g L' h1 m) (hU : envU.frame = some L') (k : KeptBut lst h h1)
    (x : Heap.FlyingW (hideAll h1 (lst :: frs (envU :: l))) l e cls a0 h') : Heap.FlyingW (hideAll h (lst :: frs l)) l e cls a0 h' := by
  refine flyingW_base (fun b o e1 => ?_) x
  have e2 := of_hideAll _ e1
  have hb : b ∉ lst :: frs l := fun q => by rw [hideAll_none _ q] at e1; cases e1
  refine hideAll_get _ (k b o (fun q => hb (q ▸ .head _)) e2) fun q => ?_
  rcases List.mem_cons.mp q with q | q
  · exact hb (q ▸ .head _)
  · rcases mem_frs q with q | q
    · rw [hU] at q
      cases q
      have h2 := F.above
      rw [← hg, hideAll_size] at h2
      exact absurd (Heap.lt_size e2) (Nat.not_lt.mpr h2)
    · exact hb (.tail _ q)
theorem ups_out2 {h h1 h2 h' : Heap} {lst : Addr} (k : KeptBut lst h h1) (U : (hideAll h1 [lst]).UpToSlots h2) (U2 : h2.UpToSlots h') : (hideAll h [lst]).UpToSlots h' :=
  ((Heap.UpToSlots.of_keeps fun b o e => hideAll_get _ (k b o (fun q => by rw [q, hideAll_none _ (.head _)] at e; cases e) (of_hideAll _ e)) fun q => by rw [List.mem_singleton.mp q, hideAll_none _ (.head _)] at e; cases e).trans U).trans U2
/-- the text of octets -/
noncomputable def latin (ks : List Int) : Str := ⟨(ks.map Int.toNat).toArray⟩


example : True := by
  k_with_none
  k_with "my m_enter" => ((refine' enter0 ?k1 ?k2 ?k3 ?k5 ?kA ?kF ?kK ?k6 ?k7 ?k8 ?k9 ?kB ?_ ?c2 ?c3 ?c4 ?c5; (case kA => exact rfl); (case kF => exact rfl); (case kK => assumption); (case k1 => k_asm); (case k2 => k_asm); (case k3 => k_asm); (case k5 => k_asm); (case k6 => k_is); (case k7 => k_is); (case k8 => ktr_room); (case k9 => exact BindsTo.of_eq rfl); (case c5 => decide); (case kB => exact locs rfl); (case c2 => exact rfl); (case c3 => exact rfl); (case c4 => exact rfl); k_whole))
  k_with "my call builtin:issubclass" => ((k_here; (with_reducible show wpAny _ _ (call _ [Value.type _, Value.ref _]) _ _ _); k_dflt (refine' call_iss ?k1 ?_; (case k1 => exact News.get (by k_asm) (by k_mem)))))
  k_with "my m_start" => ((refine wpAny_call ?_; k_dflt (walk_at "m_enter")))
  k_with "my m_use" => (((case kB => k_asm); (case kF => k_asm); (case kX => k_asm); (case kN => k_asm); (case kT => k_asm); (case kK => first | exact rfl | assumption); (case kD => ktr_room); (case kU => ktr_units)))
  k_with "my exec For Name Name cons nil" => ((k_here; refine Stop.out ?_))
  k_with "my exec For Tuple Name cons nil" => ((k_here; refine Stop.out ?_))
  k_with "my eval ListComp Call cons" => ((k_here; refine Stop.out ?_))
  k_with "my eval ListComp Name cons" => ((k_here; refine Stop.out ?_))
  k_with "my eval ListComp BinOp cons" => ((k_here; refine Stop.out ?_))
  k_with "my eval ListComp Tuple cons" => ((k_here; refine Stop.out ?_))
  k_with "my m_loc" => (first
  | exact rfl
  | with_reducible assumption
  | (refine Eq.trans (if_neg (by decide)) ?_; walk_at "m_loc")
  | ((with_reducible rename (∀ y : PySem.Str, y ≠ _ → _ = _) => hm9); refine Eq.trans (hm9 _ (by decide)) ?_; walk_at "m_loc"))
  k_with "my truthy ref" => ((k_here; (with_reducible show wpAny _ _ (truthy (Value.ref _)) _ _ _); k_dflt (refine' kgr_truthy ?N ?hm ?hc ?hd ?hf ?_; (case N => k_asm); (case hm => k_mem); (case hc => exact rfl); (case hd => exact rfl); (case hf => ((try simp only [strValues_length, List.length_append, List.length_cons, List.length_nil]); omega)); k_whole; (simp only [snoc_isEmpty, List.isEmpty_nil, Bool.not_true, Bool.not_false]))))
  k_with "my call builtin:list.append" => ((k_here; (with_reducible show wpAny _ _ (call (Value.builtin _) [Value.ref _, _]) _ _ _); k_dflt (refine' my_append ?F ?N ?U ?z ?_; (case F => k_asm); (case N => k_asm); (case U => k_upd); (case z => (rw [PySem.sizeLine_eq]; (try simp only [strValues_length, List.length_append, List.length_cons, List.length_nil]); omega)); k_whole; intro _ _ _; (try k_sweep))))
  k_with "my call builtin:list.pop" => ((k_here; (with_reducible show wpAny _ _ (call (Value.builtin _) [Value.ref _]) _ _ _); k_dflt (refine' my_pop ?F ?N ?U ?z ?_; (case F => k_asm); (case N => k_asm); (case U => k_upd); (case z => (rw [PySem.sizeLine_eq]; (try simp only [strValues_length, List.length_append, List.length_cons, List.length_nil]); omega)); k_whole; intro _ _ _; (try k_sweep))))
  k_with "my subscriptTail Name UnaryOp ref int" => ((k_here; (with_reducible show wpAny _ _ (subscriptTail _ _ (Value.ref _) (Value.int _ _)) _ _ _); k_dflt (refine' my_last ?N ?hm ?_; (case N => k_asm); (case hm => k_mem); k_whole)))
  k_with "my call builtin:str.join" => ((k_here; (with_reducible show wpAny _ _ (call (Value.builtin _) [Value.str _ _, Value.ref _]) _ _ _); k_dflt (refine' join_list (News.isList ?N ?hm) ?S ?ok ?_; (case N => k_asm); (case hm => k_mem); (case S => with_reducible assumption); (case ok => ((simp only [show (Str.ofString "/").length = 1 from rfl, show (Str.ofString "").length = 0 from rfl]); omega)); k_whole; intro _ _)))
  k_with "my binaryOp Add str str" => ((k_here; (with_reducible show wpAny _ _ (binaryOp Operator.Add (Value.str _ _) (Value.str _ _)) _ _ _); k_dflt (refine' SBL.add (hsz := ?z) ?_; (case z => (rw [PySem.sizeLine_eq]; (try simp only [show (Str.ofString "/").length = 1 from rfl]); omega)); k_whole; intro _ _)))
  k_with "my truthy str" => ((k_here; (with_reducible show wpAny _ _ (PySem.truthy (Value.str _ _)) _ _ _); k_dflt (refine' KXt.truthy_pos (K := 16777216) ?za ?zb (Nat.le_refl _) ?_; (case za => omega); (case zb => omega); k_whole; intro _)))
  k_with "my eval Name" => (((k_here; (with_reducible rename NsObj _ _ => nX9); k_dflt (refine' ldVarK (NsObj.ns nX9 (News.get ?N ?hm)) ?hv ?_; (case N => k_asm); (case hm => k_mem); (case hv => with_reducible assumption); k_whole)); (try walk_at "m_hX")))
  k_with "my call builtin:str.join" => ((k_here; (with_reducible show wpAny _ _ (call (Value.builtin _) [Value.str _ _, Value.ref _]) _ _ _); k_dflt (refine' join_list ?hl ?S ?ok ?_; (case hl => exact Heap.IsList.at (by with_reducible assumption) (Fr.keep (by k_asm) _)); (case S => with_reducible assumption); (case ok => ((simp only [show (Str.ofString "/").length = 1 from rfl, show (Str.ofString "").length = 0 from rfl]); omega)); k_whole; intro _ _)))
  k_with "my eval Name" => (((k_here; (with_reducible rename Fr _ _ _ _ => kF); (with_reducible rename NsObj _ _ => nX9); k_dflt (refine' nameG_B kF ?k1 ?k2 ?k3 ?k4 ?k5 ?_ ?k6 ?k7 ?k8 ?k9 ?k10; (case k1 => k_asm); (case k2 => k_asm); (case k3 => k_is); (case k4 => boot_by_name); (case k5 => decide); (case k6 => exact rfl); (case k7 => exact rfl); (case k8 => exact rfl); (case k9 => exact rfl); (case k10 => decide); k_whole)); (try walk_at "m_hF"); (try walk_at "m_hX")))
  k_with "my binaryOp Add ref ref" => ((k_here; (with_reducible show wpAny _ _ (binaryOp Operator.Add (Value.ref _) (Value.ref _)) _ _ _); k_dflt (refine' add_lists ?F ?N (News.isList ?N1 ?m1) (News.isList ?N2 ?m2) ?_ ?z; (case F => k_asm); (case N => k_asm); (case N1 => k_asm); (case m1 => k_mem); (case N2 => k_asm); (case m2 => k_mem); (case z => (rw [PySem.sizeLine_eq]; (try simp only [List.length_append, List.length_cons, List.length_nil]); omega)); k_whole; intro _ _ _; (try k_sweep))))
  k_with "my call builtin:len" => ((k_here; (with_reducible show wpAny _ _ (call _ [Value.ref _]) _ _ _); k_dflt (refine' len_list ?hl ?hf ?_; (case hl => exact Heap.IsList.at (by with_reducible assumption) (Fr.keep (by k_asm) _)); (case hf => ((simp only [List.size_toArray]); omega)); k_whole; (try simp only [List.size_toArray]))))
  k_with "my call type:bytes" => ((k_here; (with_reducible show wpAny _ _ (call (Value.type _) [Value.ref _]) _ _ _); k_dflt (refine' bytes_K ?F ?N (News.isList ?N1 ?m1) ?i ?r ?z ?h ?_; (case F => k_asm); (case N => k_asm); (case N1 => k_asm); (case m1 => k_mem); (case i => with_reducible assumption); (case r => with_reducible assumption); (case z => (rw [PySem.sizeLine_eq]; omega)); (case h => exact rfl); k_whole; intro _ _ _ _ _ _; (try k_sweep))))
  k_with "my eval Name" => (((k_here; (with_reducible rename Fr _ _ _ _ => kF); k_dflt (refine' nameX_L kF ?k2 ?_ ?a ?b; (case b => exact rfl); (case a => exact rfl); (case k2 => walk_at "m_loc"); k_whole); (try dsimp only)); (try walk_at "m_hF")))
  k_with "my eval Name" => (((k_here; (with_reducible rename News _ _ _ _ => kN); k_dflt (refine' nameX_C kN ?hc ?hm ?hd ?_ ?a ?b; (case b => exact rfl); (case a => exact rfl); (case hc => exact rfl); (case hm => k_mem); (case hd => with_reducible assumption); k_whole)); (try walk_at "m_hN")))
  k_with "my m_enterC" => ((refine' enterC0 ?k1 ?k2 ?k3 ?k5 ?kA ?kF ?kK ?k6 ?k7 ?k8 ?k9 ?kB ?kD ?_ ?c2 ?c3 ?c4; (case kA => exact rfl); (case kF => exact rfl); (case kK => assumption); (case k1 => k_asm); (case k2 => k_asm); (case k3 => k_asm); (case k5 => k_asm); (case k6 => k_is); (case k7 => k_is); (case k8 => ktr_room); (case k9 => exact BindsTo.of_eq rfl); (case kB => exact rfl); (case kD => decide +kernel); (case c2 => exact rfl); (case c3 => exact rfl); (case c4 => exact rfl); k_whole))
  k_with "my m_startC" => ((refine wpAny_call ?_; k_dflt (walk_at "m_enterC")))
  k_with "my exec For Name Subscript cons nil" => ((k_here; refine Stop.out ?_))
  k_with "my exec For Name Call cons nil" => ((k_here; refine Stop.out ?_))
  k_with "my pyIter ref" => ((k_here; refine Stop.out ?_))
  k_with "my subscriptTail Name Slice ref ref" => ((k_here; (with_reducible show wpAny _ _ (subscriptTail _ (PySem.Expr.Slice none none (some _) _) (Value.ref _) (Value.ref _)) _ _ _); k_dflt (refine' my_rev ?F ?N ?l ?k ?_ ?s ?t ?z; (case F => k_asm); (case N => k_asm); (case l => exact Heap.IsList.at (by with_reducible assumption) (Fr.keep (by k_asm) _)); (case k => exact IsPart.int _ _); (case s => with_unfolding_all rfl); (case t => kmk_pure); (case z => (rw [PySem.sizeLine_eq]; omega))); k_whole; walk_at "m_i5"))
  k_with "my call type:range" => (((k_here; (with_reducible show wpAny _ _ (call (Value.type _) [Value.int _ _]) _ _ _); (with_reducible rename Fr _ _ _ _ => kF); (with_reducible rename News _ _ _ _ => kN); k_dflt (refine' range1_rows kF kN ?_; k_whole; intro _ _ _ _ _ _ _ _ _)); (try walk_at "m_hF"); (try walk_at "m_hN")))
  k_with "my eval Name" => (((k_here; (with_reducible rename NsObj _ _ => nX9); (with_reducible rename News _ _ _ _ => kN); k_dflt (refine' ldFreeK ?hc ?hv ?_ ?hk ?hl; (case hl => exact rfl); (case hk => exact rfl); (case hc => exact rfl); (case hv => exact ⟨_, News.get kN (by k_mem), by with_reducible assumption⟩); k_whole)); (try walk_at "m_hN"); (try walk_at "m_hX")))
  k_with "my compareOp NotEq ref ref" => ((k_here; (with_reducible show wpAny _ _ (compareOp CmpOp.NotEq (Value.ref _) (Value.ref _)) _ _ _); k_dflt (refine' my_neE (News.isList ?N1 ?m1) ?i1 (News.isList ?N2 ?m2) ?u ?_; (case N1 => k_asm); (case m1 => k_mem); (case i1 => with_reducible assumption); (case N2 => k_asm); (case m2 => k_mem); (case u => units_room); k_whole; (try simp only [List.isEmpty_cons, List.isEmpty_nil, Bool.not_true, Bool.not_false]))))
  k_with "my call builtin:max" => ((k_here; (with_reducible show wpAny _ _ (call (Value.builtin _) [Value.ref _]) _ _ _); k_dflt (refine' kso_max ?F ?N (News.isList ?N1 ?m1) ?i1 ?z ?hh ?_; (case F => k_asm); (case N => k_asm); (case N1 => k_asm); (case m1 => k_mem); (case i1 => with_reducible assumption); (case z => (simp only [List.length_cons]; omega)); (case hh => with_unfolding_all rfl); k_whole; intro _ _ _ _ _ _ _ _)))
  k_with "my call builtin:min" => ((k_here; (with_reducible show wpAny _ _ (call (Value.builtin _) [Value.ref _]) _ _ _); k_dflt (refine' kso_min ?F ?N (News.isList ?N1 ?m1) ?i1 ?z ?hh ?_; (case F => k_asm); (case N => k_asm); (case N1 => k_asm); (case m1 => k_mem); (case i1 => with_reducible assumption); (case z => (simp only [List.length_cons]; omega)); (case hh => with_unfolding_all rfl); k_whole; intro _ _ _ _ _ _ _ _)))
  k_with "my m_enterCT" => ((refine' enterCT ?k1 ?k2 ?k3 ?k5 ?kN ?kA ?kF ?kK ?k6 ?k7 ?k8 ?k9 ?kB ?kD ?_ ?c2 ?c3 ?c4; (case kA => exact rfl); (case kF => exact rfl); (case kK => assumption); (case k1 => k_asm); (case k2 => k_asm); (case k3 => k_asm); (case kN => k_asm); (case k5 => k_asm); (case k6 => k_is); (case k7 => k_is); (case k8 => ktr_room); (case k9 => exact BindsTo.of_eq rfl); (case kB => exact rfl); (case kD => decide +kernel); (case c2 => exact rfl); (case c3 => exact rfl); (case c4 => exact rfl); k_whole))
  k_with "my m_startCT" => ((refine wpAny_call ?_; k_dflt (walk_at "m_enterCT")))
  k_with "my setAttr ref" => ((k_here; k_dflt (refine' setattr_K ?F ?N ?U ?_; (case F => k_asm); (case N => k_asm); (case U => k_updF); k_whole); walk_at "m_i8"))
  k_with "my getMethod ref" => ((k_here; k_dflt (refine' getread_K ?N ?h1 ?h2 ?hn ?h3 ?_; (case N => k_asm); (case h1 => k_mem); (case h2 => k_mem); (case hn => with_reducible assumption); (case h3 => k_mem); k_whole); intro _))
  k_with "my exec FunctionDef" => ((k_here; k_dflt (refine' nestDef_K ?d0 ?k0 ?a0 ?_; (case d0 => exact rfl); (case k0 => exact rfl); (case a0 => exact rfl)); refine Stop.out ?_))
  k_with "my eval Lambda" => ((k_here; k_dflt (refine' kla_eval ?d0 ?_; (case d0 => exact rfl)); refine Stop.out ?_))
  k_with "my m_enterT" => ((refine' enterT ?k1 ?k2 ?k3 ?k5 ?kN ?kA ?kF ?kK ?k6 ?k7 ?k8 ?k9 ?kB ?_ ?c2 ?c3 ?c4 ?c5; (case kA => exact rfl); (case kF => exact rfl); (case kK => assumption); (case k1 => k_asm); (case k2 => k_asm); (case k3 => k_asm); (case kN => k_asm); (case k5 => k_asm); (case k6 => k_is); (case k7 => k_is); (case k8 => ktr_room); (case k9 => exact BindsTo.of_eq rfl); (case c5 => decide); (case kB => exact locs rfl); (case c2 => exact rfl); (case c3 => exact rfl); (case c4 => exact rfl); k_whole))
  k_with "my m_startT" => ((refine wpAny_call ?_; k_dflt (walk_at "m_enterT")))
  k_with "my call builtin:len" => ((k_here; (with_reducible show wpAny _ _ (call (Value.builtin "len") [Value.bytes _ _]) _ _ _); (refine' KBw.len_K ?a ?b ?_; (case a => with_reducible assumption); (case b => exact Nat.le_trans (by with_reducible assumption : _ ≤ 25000) (by decide))); (try simp only [List.length_take])))
  k_with "my binaryOp Mod str ref" => ((k_here; (with_reducible show wpAny _ _ (binaryOp Operator.Mod (Value.str _ _) (Value.ref _)) _ _ _); k_dflt (refine' fmt_two ?N ?hm ?a ?b ?_; (case N => k_asm); (case hm => k_mem); (case a => omega); (case b => omega)); intro _ _ _))
  k_with "my exec Raise some none" => ((k_here; refine Raise_new rfl ?_))
  k_with "my leaving ref" => ((k_here; first
  | (refine' leave_onMine ?k1 ?k0 ?_; (case k0 => assumption); (case k1 => assumption); k_whole; walk_at "m_lv3")
  | (refine' leave_mine ?k1 ?k0 ?k2 ?_; (case k0 => assumption); (case k1 => assumption); (case k2 => assumption); k_whole; walk_at "m_lv4")))
  k_with "my call builtin:bytes.decode" => ((k_here; (with_reducible show wpAny _ _ (call (Value.builtin "bytes.decode") [Value.bytes _ _, Value.str _ _]) _ _ _); k_dflt (refine' call_latin ?a ?b ?_; (case a => assumption); (case b => ((try simp only [List.length_take]); omega)); k_whole; intro _ _)))
  k_with "my eval Name" => (k_here; dsimp only)
  k_with "my eval Constant int" => (k_here; dsimp only)
  k_with "my eval Constant str" => (k_here; dsimp only)
  k_with "my m_fold" => (((first | (with_reducible show wpAny _ _ (PySem.execs _ _) _ _ _) | (with_reducible show wpAny _ _ (PySem.exec _ _) _ _ _)); (first | ((fail_if_success (have := qk0)); k_fold; (rename PySem.Flow → PySem.Shared → Prop => qk0); (rename PySem.Value → PySem.Shared → Prop => ek0)) | ((fail_if_success (have := qk1)); k_fold; (rename PySem.Flow → PySem.Shared → Prop => qk1); (rename PySem.Value → PySem.Shared → Prop => ek1)) | ((fail_if_success (have := qk2)); k_fold; (rename PySem.Flow → PySem.Shared → Prop => qk2); (rename PySem.Value → PySem.Shared → Prop => ek2)) | ((fail_if_success (have := qk3)); k_fold; (rename PySem.Flow → PySem.Shared → Prop => qk3); (rename PySem.Value → PySem.Shared → Prop => ek3)) | ((fail_if_success (have := qk4)); k_fold; (rename PySem.Flow → PySem.Shared → Prop => qk4); (rename PySem.Value → PySem.Shared → Prop => ek4)) | ((fail_if_success (have := qk5)); k_fold; (rename PySem.Flow → PySem.Shared → Prop => qk5); (rename PySem.Value → PySem.Shared → Prop => ek5)) | ((fail_if_success (have := qk6)); k_fold; (rename PySem.Flow → PySem.Shared → Prop => qk6); (rename PySem.Value → PySem.Shared → Prop => ek6)) | ((fail_if_success (have := qk7)); k_fold; (rename PySem.Flow → PySem.Shared → Prop => qk7); (rename PySem.Value → PySem.Shared → Prop => ek7)) | ((fail_if_success (have := qk8)); k_fold; (rename PySem.Flow → PySem.Shared → Prop => qk8); (rename PySem.Value → PySem.Shared → Prop => ek8)) | ((fail_if_success (have := qk9)); k_fold; (rename PySem.Flow → PySem.Shared → Prop => qk9); (rename PySem.Value → PySem.Shared → Prop => ek9)) | ((fail_if_success (have := qk10)); k_fold; (rename PySem.Flow → PySem.Shared → Prop => qk10); (rename PySem.Value → PySem.Shared → Prop => ek10)) | ((fail_if_success (have := qk11)); k_fold; (rename PySem.Flow → PySem.Shared → Prop => qk11); (rename PySem.Value → PySem.Shared → Prop => ek11)) | ((fail_if_success (have := qk12)); k_fold; (rename PySem.Flow → PySem.Shared → Prop => qk12); (rename PySem.Value → PySem.Shared → Prop => ek12)) | ((fail_if_success (have := qk13)); k_fold; (rename PySem.Flow → PySem.Shared → Prop => qk13); (rename PySem.Value → PySem.Shared → Prop => ek13)) | ((fail_if_success (have := qk14)); k_fold; (rename PySem.Flow → PySem.Shared → Prop => qk14); (rename PySem.Value → PySem.Shared → Prop => ek14)) | ((fail_if_success (have := qk15)); k_fold; (rename PySem.Flow → PySem.Shared → Prop => qk15); (rename PySem.Value → PySem.Shared → Prop => ek15)))))
  k_with "my m_tidy" => (((try clear qk15); (try clear ek15)); ((try clear qk14); (try clear ek14)); ((try clear qk13); (try clear ek13)); ((try clear qk12); (try clear ek12)); ((try clear qk11); (try clear ek11)); ((try clear qk10); (try clear ek10)); ((try clear qk9); (try clear ek9)); ((try clear qk8); (try clear ek8)); ((try clear qk7); (try clear ek7)); ((try clear qk6); (try clear ek6)); ((try clear qk5); (try clear ek5)); ((try clear qk4); (try clear ek4)); ((try clear qk3); (try clear ek3)); ((try clear qk2); (try clear ek2)); ((try clear qk1); (try clear ek1)); ((try clear qk0); (try clear ek0)))
  k_with "my execs cons" => (first | (k_here; k_gentoks) | (k_here; walk_at "m_fold") | (k_here; walk_at "m_tidy"; (with_reducible refine wpAny_execs_cons ?_); (try dsimp only); (try walk_at "m_fold")))
  trivial

set_option maxHeartbeats 8000000 in
theorem str1_spec (w : World) (ks : List Int) (hks : ks.length ≤ 25000) : RdSpec w 52 24 160 ks (fun v k2 => ∃ x r t, ks = x :: r ∧ x.toNat ≤ r.length ∧ v = .str (latin (r.take x.toNat)) t ∧ k2 = r.drop x.toNat) (ks = [] ∨ ∃ x r, ks = x :: r ∧ r.length < x.toNat) := by
  intro st D fr lst cL cc fdS oD oc ocell rd bs tb n p loose mean mg mb dp un gd cn cs a ccd cl outer A₀ base h₀ L m s Q E ok hbi B F X T hk hd hu N hret hbad
  walk_at "m_startT"
  intro g L' h₁ hg F' N' lt' B' X' T'
  (try dsimp only)
  have C : CodeHd g 212 210 := codeHd_of_K X' (by kernel_rfl)
  have hns := ok.ns
  refine hide ?_
  intro Gq hGq
  obtain ⟨params, body, scope, doc, pm, ctv, hfn, hrd⟩ := ok.fn
  refine hGq ?_
  clear hGq Gq
  have N0 : ∀ q ∈ RdL st D fr lst cL cc fdS oD oc ocell rd bs tb n, s.heap.get? q.1 = some q.2 := fun q hq => (N q hq).1
  subst hrd
  replace N' : News g L' h₁ [(lst, W.listOf #[.bytes bs tb] n), (D, oD), (st, fnObjD fdS D), (fr, _), (cL, ocell), (cc, oc)] := N'
  have hin : ∀ y ∈ ks, 0 ≤ y ∧ y < 256 := fun y hy => KBw.ints_in (hbi ▸ hy)
  clear B F X T N
  have same : ∀ {h7 : Heap} {m7 : Str → Option Value} {b7 : Array UInt8} {t7 : Tok}, Fr g L' h7 m7 → News g L' h7 [(lst, W.listOf #[.bytes b7 t7] n), (D, oD), (st, fnObjD fdS D), (fr, _), (cL, ocell), (cc, oc)] → KeptBut lst s.heap h7 := fun F7 N7 =>
    keptBut_tabs hg F7 N0 fun q hq hne => by
      rcases List.mem_cons.mp hq with rfl | hq
      · exact absurd rfl hne
      · exact (N7 q (.tail _ hq)).1
  (all_goals try walk_at "m_fold")
  k_steps
  with_reducible rename Fr _ _ _ _ => F1
  with_reducible rename News _ _ _ _ => N1
  refine hide ?_
  intro Gq hGq
  obtain ⟨a1, a2, a3, a4, a5⟩ := ok.apart
  refine hGq ?_
  clear hGq Gq
  refine useRd (bs := bs) (tb := tb) (n := n) (fdS := fdS) (uint_spec w ks hks) B' F1 X' T' N1 hbi ok rfl ?kD ?kU (fun q hq => hq) (.head ?kk) ?_ ?_
  case kD => ktr_room
  case kU => ktr_units
  case kk => k_all
  rotate_left
  · rintro rfl e a0 h2 tk2 R2 U2
    (all_goals try walk_at "m_fold")
    k_steps
    with_reducible rename Heap.FlyingW _ _ _ _ _ _ => R7
    with_reducible rename Heap.UpToSlots _ _ => U7
    exact hbad (.inl rfl) _ _ _ _ (fly_out2 hg F1 rfl (same F1 N1) R7) (ups_out2 (same F1 N1) U2 U7)
  · rintro v h2 tk2 b2 k2 t2 hq0 e2 kb F2 N2
    refine hide ?_
    intro Gq hGq
    obtain ⟨x, tx, rfl, rfl⟩ := hq0
    refine hGq ?_
    clear hGq Gq
    clear F1 N1
    replace N2 : News g L' h2 [(lst, W.listOf #[.bytes b2 t2] n), (D, oD), (st, fnObjD fdS D), (fr, _), (cL, ocell), (cc, oc)] := N2
    have hx := hin x (.head _)
    obtain ⟨xn, rfl⟩ : ∃ xn : Nat, x = (xn : Int) := ⟨x.toNat, by omega⟩
    have hkl : k2.length ≤ 25000 := Nat.le_trans (Nat.le_succ _) hks
    (all_goals try walk_at "m_fold")
    k_steps
    with_reducible rename Fr _ _ _ _ => F3
    with_reducible rename News _ _ _ _ => N3
    refine useRd1 (k := xn) (bs := b2) (tb := t2) (n := n) (fdS := fdS) B' F3 X' T' N3 e2 hkl (by omega) ok rfl ?kD ?kU (fun q hq => hq) (.head ?kk) ?_
    case kD => ktr_room
    case kU => ktr_units
    case kk => k_all
    intro h4 tk4 b3 b4 t3 t4 e3 e4 kb4 F4 N4
    clear F3 N3 kb kb4
    replace N4 : News g L' h4 [(lst, W.listOf #[.bytes b4 t4] n), (D, oD), (st, fnObjD fdS D), (fr, _), (cL, ocell), (cc, oc)] := N4
    have ht : (k2.take xn).length ≤ 25000 := Nat.le_trans (by rw [List.length_take]; exact Nat.min_le_right _ _) hkl
    (all_goals try walk_at "m_fold")
    k_steps
    · with_reducible rename Fr _ _ _ _ => F7
      with_reducible rename News _ _ _ _ => N7
      rename_i hmin _ _ _
      refine hret _ _ _ _ _ _ ⟨_, k2, _, rfl, ?_, rfl, rfl⟩ e4 (same F7 N7) (N7 _ (List.Mem.head _)).1
      rw [Int.toNat_natCast]
      omega
    · with_reducible rename Fr _ _ _ _ => F7
      with_reducible rename News _ _ _ _ => N7
      with_reducible rename Heap.FlyingW _ _ _ _ _ _ => R7
      with_reducible rename Heap.UpToSlots _ _ => U7
      have N8 : News g L' _ [(lst, W.listOf #[.bytes b4 t4] n), (D, oD), (st, fnObjD fdS D), (fr, _), (cL, ocell), (cc, oc)] := fun q hq => N7 q (.tail _ hq)
      refine hbad (.inr ⟨_, k2, rfl, ?_⟩) _ _ _ _ (fly_out hg F7 rfl (same F7 N8) R7) (ups_out (same F7 N8) U7)
      rw [Int.toNat_natCast]
      omega

/-- an exception on its way, wherever its last mark says that it is -/
def AnyW (base : Heap) (l : List Env) (e : Addr) (cls a0 : Value) (h : Heap) : Prop :=
  base.StaysIn h ∧ base.get? e = none ∧ h.FunFrames base l ∧ ∃ fl, h.TracedAtW base e cls a0 fl
theorem AnyW.of_flying {base h : Heap} {l : List Env} {e : Addr} {cls a0 : Value} (x : Heap.FlyingW base l e cls a0 h) : AnyW base l e cls a0 h := ⟨x.1, x.2.1, x.2.2.1, _, x.2.2.2⟩
section
variable {M : Model} {A : Around} {E : Value → Shared → Prop} {s : Shared}
theorem flight_any {base : Heap} {l : List Env} {e : Addr} {cls a0 : Value} {f : Option Addr} {Q : Unit → Shared → Prop} (x : AnyW base l e cls a0 s.heap)
    (h : ∀ h', base.StaysIn h' → h'.FunFrames base l → h'.TracedAtW base e cls a0 (f.elim .none fun f => rawInt f) → (∀ b o, s.heap.get? b = some o → (∀ vs, o.data ≠ .fields vs) → h'.get? b = some o) → Q () { s with heap := h' }) :
    wpAny M A (setFlight (.ref e) f) Q E s := by
  refine hide ?_
  intro Gq hGq
  obtain ⟨hkb, hen, hl, fl, oe, vs, T, oT, ts, he, hcls, hd, h1, hnT, hTe, hT, hdT, h3⟩ := x
  refine hGq ?_
  clear hGq Gq
  have hsz3 : 3 < ts.size := (Array.getElem?_eq_some_iff.mp h3).1
  have other : ∀ b, b ≠ T → (s.heap.update T (Obj.mapFields (·.setIfInBounds 3 (f.elim Value.none fun f => rawInt f)))).get? b = s.heap.get? b :=
    fun b hb => Heap.get?_update_other _ _ (Ne.symm hb)
  have noRecord : ∀ b o, s.heap.get? b = some o → (∀ vs, o.data ≠ .fields vs) → b ≠ T := fun b o hb hnf q => by
    rw [q, hT] at hb; cases hb; exact hnf ts hdT
  unfold setFlight
  refine wpAny_bind (wpAny_field he hd h1 ?_)
  rw [if_pos (show (Value.ref T != Value.none) = true from by simp)]
  refine wpAny_setField hT hdT hsz3 (h _ (fun b o hbo => (other b fun q => by rw [q, hnT] at hbo; cases hbo).trans (hkb b o hbo))
    (hl.of_keeps fun b o hb hnf => ⟨o, (other b (noRecord b o hb hnf)).trans hb, rfl⟩) ?_ fun b o hb hnf => (other b (noRecord b o hb hnf)).trans hb)
  exact ⟨oe, vs, T, _, _, (other e (Ne.symm hTe)).trans he, hcls, hd, h1, hnT, hTe, Heap.get?_update_self _ hT (Obj.isFreed_of_fields (Obj.data_mapFields hdT _)), Obj.data_mapFields hdT _, by simp [hsz3]⟩
theorem note_any {base : Heap} {env : Env} {outer : List Env} {L e : Addr} {cls a0 : Value} {Q : Unit → Shared → Prop} (hfr : A.frames = some (env :: outer)) (hf : env.frame = some L) (x : AnyW base (env :: outer) e cls a0 s.heap)
    (h : ∀ h', AnyW base (env :: outer) e cls a0 h' → s.heap.UpToSlots h' → Q () { s with heap := h' }) : wpAny M A (noteFrame (.ref e) env) Q E s := by
  have x0 := x
  refine hide ?_
  intro Gq hGq
  obtain ⟨hkb, hen, hl, fl, oe, vs, T, oT, ts, he, ⟨hcls, h0⟩, hd, h1, hnT, hTe, hT, hdT, h3⟩ := x
  refine hGq ?_
  clear hGq Gq
  subst hcls
  unfold noteFrame
  simp only [hf]
  refine wpAny_bind (wpAny_field he hd h1 ?_)
  rw [if_pos (show (Value.ref T != Value.none) = true from by simp)]
  refine wpAny_bind (wpAny_field hT hdT h3 ?_)
  cases hb : (fl == rawInt L) with
  | true => rw [if_pos rfl]; exact wpAny_pure (h _ x0 (Heap.UpToSlots.refl _))
  | false =>
    rw [if_neg Bool.false_ne_true]
    refine wpAny_bind (wpAny_setField hT hdT (Array.getElem?_eq_some_iff.mp h3).1 ?_)
    have other : ∀ b, b ≠ T → (s.heap.update T (Obj.mapFields (·.setIfInBounds 3 Value.none))).get? b = s.heap.get? b := fun b hb => Heap.get?_update_other _ _ (Ne.symm hb)
    have noRecord : ∀ b o, s.heap.get? b = some o → (∀ vs, o.data ≠ .fields vs) → b ≠ T := fun b o hb hnf q => by
      rw [q, hT] at hb; cases hb; exact hnf ts hdT
    refine wpAny_entryW hfr (hl.of_keeps fun b o hb hnf => ⟨o, (other b (noRecord b o hb hnf)).trans hb, rfl⟩) hf ((other e (Ne.symm hTe)).trans he)
      (fun b o hbo => (other b fun q => by rw [q, hnT] at hbo; cases hbo).trans (hkb b o hbo)) hen hd (Array.getElem?_eq_some_iff.mp h1).1 h0
      fun h' ⟨x1, x2, x3, x4⟩ => h h' ⟨x1, hen, x2, _, x3⟩ fun b o hb hnf => x4 b o ((other b (noRecord b o hb hnf)).trans hb) hnf
theorem leave_any {base : Heap} {env : Env} {outer : List Env} {L e : Addr} {cls a0 : Value} {Q : Unit → Shared → Prop} (hfr : A.frames = some (env :: outer)) (hf : env.frame = some L) (x : AnyW base (env :: outer) e cls a0 s.heap)
    (h : ∀ h', Heap.FlyingW base outer e cls a0 h' → s.heap.UpToSlots h' → Q () { s with heap := h' }) : wpAny M A (leaving env (.ref e)) Q E s := by
  unfold leaving
  refine wpAny_bind (note_any hfr hf x fun h' x' u => ?_)
  refine flight_any (s := { s with heap := h' }) x' fun h2 k1 k2 k3 k4 => ?_
  exact h h2 ⟨k1, x'.2.1, k2.2.2, k3⟩ (u.trans fun b o hb hn => ⟨o.slots, k4 b o hb hn⟩)
/-- an exception thrown within a list's making -/
theorem comp_throw {base : Heap} {env : Env} {outer : List Env} {L e C D : Addr} {cls a0 : Value} {scope : Scope} {cl : List (Str × Addr)} {m : Str → Option Value} {Q : Value → Shared → Prop} (hfr : A.frames = some (env :: outer)) (hf : env.frame = some L)
    (x : AnyW base (env :: outer) e cls a0 s.heap) (hC : s.heap.Ns C m) (hCb : base.get? C = none) (hCf : C ∉ (env :: outer).filterMap (·.frame))
    (h : ∀ h', AnyW base (env :: outer) e cls a0 h' → (s.heap.hide C).UpToSlots h' → E (.ref e) { s with heap := h' }) :
    notedBy M A (compEnvC scope cl C env) (fun e s' => compPost M A E none Q (.ref D) C (.error e) s') (.ref e) s := by
  show wpAny M A (noteFrame (.ref e) env) _ _ s
  refine note_any hfr hf x fun h' x' u => ?_
  refine ⟨m, u.ns hC, fun h2 hs2 cenv _ => ?_⟩
  have hnC := u.ns hC
  have nf : ∀ b o vs, h'.get? b = some o → o.data = .fields vs → b ≠ C := fun b o vs e1 e2 q => by
    refine hide ?_
    intro Gq hGq
    obtain ⟨o', es, ep, e3, e4, _⟩ := hnC
    refine hGq ?_
    clear hGq Gq
    rw [q, e3] at e1; cases e1
    rw [e4] at e2; cases e2
  have x2 : AnyW base (env :: outer) e cls a0 h2 := by
    refine hide ?_
    intro Gq hGq
    obtain ⟨k1, k2, k3, fl, oe, vs, T, oT, ts, he, hcls, hd, h1, hnT, hTe, hT, hdT, h3⟩ := x'
    refine hGq ?_
    clear hGq Gq
    refine ⟨fun b o e1 => (hs2.2 b fun q => by rw [q, hCb] at e1; cases e1).trans (k1 b o e1), k2, ?_, fl, oe, vs, T, oT, ts, (hs2.2 _ (nf _ _ _ he hd)).trans he, hcls, hd, h1, hnT, hTe, (hs2.2 _ (nf _ _ _ hT hdT)).trans hT, hdT, h3⟩
    have go : ∀ l : List Env, h'.FunFrames base l → C ∉ l.filterMap (·.frame) → h2.FunFrames base l := by
      intro l
      induction l with
      | nil => intro _ _; trivial
      | cons a r ih =>
        rintro hq0 hn
        refine hide ?_
        intro Gq hGq
        obtain ⟨q1, ⟨L', o, q2, q3, q4, q5⟩, q6⟩ := hq0
        refine hGq ?_
        clear hGq Gq
        refine ⟨q1, ⟨L', o, q2, q3, (hs2.2 _ fun q => hn (List.mem_filterMap.mpr ⟨a, .head _, by rw [q2, q]⟩)).trans q4, q5⟩, ih q6 fun q => hn ?_⟩
        obtain ⟨a', ha, hf'⟩ := List.mem_filterMap.mp q
        exact List.mem_filterMap.mpr ⟨a', .tail _ ha, hf'⟩
    exact go _ k3 hCf
  unfold PySem.passOn
  have x3 := x2
  refine hide ?_
  intro Gq hGq
  obtain ⟨k1, k2, k3, fl, oe, vs, T, oT, ts, he, hcls, hd, h1, hnT, hTe, hT, hdT, h3⟩ := x3
  refine hGq ?_
  clear hGq Gq
  refine wpAny_bind (wpAny_field he hd h1 ?_)
  rw [if_neg (show ¬ (Value.ref T == Value.none) = true from by simp)]
  refine wpAny_bind (flight_any (s := { s with heap := h2 }) x2 fun h3 j1 j2 j3 j4 => ?_)
  refine wpAny_throw (h h3 ⟨j1, k2, j2, _, j3⟩ ?_)
  intro b o hb hn
  have hbC : b ≠ C := fun q => by rw [q, Heap.hide_self] at hb; cases hb
  obtain ⟨sl, e1⟩ := u b o (Heap.of_hide hb) hn
  exact ⟨sl, j4 b _ ((hs2.2 b hbC).trans e1) hn⟩
end

theorem fillit_MRead : PySem.Challenge.rw_in0069_01 = PySem.Challenge.rw_in0069_01 ∧ hd.heap_39 = hd.heap_39 := by
  w_top off
  k_fill
  exact ⟨rfl, rfl⟩
noncomputable def parse1 (l : List Int) : Option ((Int × Str) × List Int) :=
  match l with
  | k :: n :: r => if n.toNat ≤ r.length then some ((k, latin (r.take n.toNat)), r.drop n.toNat) else none
  | _ => none
noncomputable def parseI : Nat → List Int → Option (List (Int × Str) × List Int)
  | 0, l => some ([], l)
  | k + 1, l => (parseI k l).bind fun st => (parse1 st.2).map fun o => (st.1 ++ [o.1], o.2)
noncomputable def parseAll (l : List Int) : Option (List (Int × Str)) :=
  match l with
  | [] => none
  | n :: r => (parseI n.toNat r).map (·.1)
theorem parseI_none {l : List Int} {i n : Nat} (h : parseI i l = none) (hi : i ≤ n) : parseI n l = none := by
  induction n with
  | zero => obtain rfl : i = 0 := by omega
            exact h
  | succ n ih =>
    rcases Nat.lt_or_ge i (n + 1) with h1 | h1
    · show (parseI n l).bind _ = none
      rw [ih (by omega)]; rfl
    · obtain rfl : i = n + 1 := by omega
      exact h
theorem parse1_len {l r : List Int} {o : Int × Str} (h : parse1 l = some (o, r)) : r.length ≤ l.length := by
  unfold parse1 at h
  split at h
  · split at h
    · cases h; simp; omega
    · cases h
  · cases h
theorem parseI_len : ∀ {i : Nat} {l r : List Int} {ws : List (Int × Str)}, parseI i l = some (ws, r) → r.length ≤ l.length ∧ ws.length = i
  | 0, l, r, ws, h => by cases h; exact ⟨Nat.le_refl _, rfl⟩
  | i + 1, l, r, ws, h => by
    obtain ⟨⟨ws1, r1⟩, h1, h2⟩ := Option.bind_eq_some_iff.mp h
    obtain ⟨⟨o, r2⟩, h3, h4⟩ := Option.map_eq_some_iff.mp h2
    cases h4
    have q := parseI_len h1
    have q2 := parse1_len h3
    exact ⟨Nat.le_trans q2 q.1, by rw [List.length_append, q.2]; rfl⟩
abbrev sc0 : Scope := { kind := .function, names := [], isGenerator := false, isCoroutine := false }
theorem anyW_env {base h : Heap} {e1 e2 : Env} {l : List Env} {e : Addr} {cls a0 : Value} (x : AnyW base (e1 :: l) e cls a0 h) (hf : e2.frame = e1.frame) (hk : e2.scope.kind ≠ .module) : AnyW base (e2 :: l) e cls a0 h := by
  obtain ⟨k1, k2, ⟨_, ⟨L, o, q2, q3⟩, q4⟩, k4⟩ := x
  exact ⟨k1, k2, ⟨hk, ⟨L, o, hf.trans q2, q3⟩, q4⟩, k4⟩
theorem ups_hide {h h1 h2 : Heap} {C : Addr} {as : List Addr} (hC : h.objs.size ≤ C) (U : (hideAll h as).UpToSlots h1) (U2 : (h1.hide C).UpToSlots h2) : (hideAll h as).UpToSlots h2 := by
  intro b o e hn
  obtain ⟨sl, e1⟩ := U b o e hn
  have hb : b ≠ C := fun q => absurd (Heap.lt_size (of_hideAll _ e)) (q ▸ Nat.not_lt.mpr hC)
  obtain ⟨sl2, e2⟩ := U2 b { o with slots := sl } ((Heap.hide_ne _ hb).trans e1) hn
  exact ⟨sl2, e2⟩
/-- what is thrown within the list's making -/
def ThrownIn (s : Shared) (own : List (Addr × Obj)) (l : List Env) (L' : Addr) (ks : List Int) (C _D : Addr) (x : Value) (s' : Shared) : Prop :=
  ∃ e a0 h' tk' mC, x = .ref e ∧ s' = { s with heap := h', toks := tk' } ∧ AnyW (hideAll s.heap (frs l)) (envOf (Str.ofString "") sc0 L' 213 .none :: l) e (.type "ValueError") a0 h' ∧ h'.Ns C mC ∧ s.heap.objs.size ≤ C ∧ C ∉ frs (envOf (Str.ofString "") sc0 L' 213 .none :: l) ∧
    (hideAll s.heap (own.map (·.1))).UpToSlots h' ∧ parseAll ks = none
theorem ups_own {h g h1 h2 h3 : Heap} {L' lst : Addr} {m : Str → Option Value} {tabs : List (Addr × Obj)} (hg : hideAll h (tabs.map (·.1)) = g) (F : Fr g L' h1 m) (hn : g.get? lst = none) (U : (hideAll h1 [lst]).UpToSlots h2) (U2 : h2.UpToSlots h3) : (hideAll h (tabs.map (·.1))).UpToSlots h3 := by
  rw [hg]
  exact ((Heap.UpToSlots.of_keeps fun b o e => hideAll_get _ (F.keep b o e) fun q => by rw [List.mem_singleton.mp q, hn] at e; cases e).trans U).trans U2
theorem News.sub {h₀ h : Heap} {L : Addr} {news led : List (Addr × Obj)} (N : News h₀ L h led) (hs : ∀ p ∈ news, p ∈ led) : News h₀ L h news := fun p hp => N p (hs p hp)


example : True := by
  k_with_none
  k_with "my m_enter" => ((refine' enter0 ?k1 ?k2 ?k3 ?k5 ?kA ?kF ?kK ?k6 ?k7 ?k8 ?k9 ?kB ?_ ?c2 ?c3 ?c4 ?c5; (case kA => exact rfl); (case kF => exact rfl); (case kK => assumption); (case k1 => k_asm); (case k2 => k_asm); (case k3 => k_asm); (case k5 => k_asm); (case k6 => k_is); (case k7 => k_is); (case k8 => ktr_room); (case k9 => exact BindsTo.of_eq rfl); (case c5 => decide); (case kB => exact locs rfl); (case c2 => exact rfl); (case c3 => exact rfl); (case c4 => exact rfl); k_whole))
  k_with "my call builtin:issubclass" => ((k_here; (with_reducible show wpAny _ _ (call _ [Value.type _, Value.ref _]) _ _ _); k_dflt (refine' call_iss ?k1 ?_; (case k1 => exact News.get (by k_asm) (by k_mem)))))
  k_with "my m_start" => ((refine wpAny_call ?_; k_dflt (walk_at "m_enter")))
  k_with "my m_use" => (((case kB => k_asm); (case kF => k_asm); (case kX => k_asm); (case kN => k_asm); (case kT => k_asm); (case kK => first | exact rfl | assumption); (case kD => ktr_room); (case kU => ktr_units)))
  k_with "my exec For Name Name cons nil" => ((k_here; refine Stop.out ?_))
  k_with "my exec For Tuple Name cons nil" => ((k_here; refine Stop.out ?_))
  k_with "my eval ListComp Call cons" => ((k_here; refine Stop.out ?_))
  k_with "my eval ListComp Name cons" => ((k_here; refine Stop.out ?_))
  k_with "my eval ListComp BinOp cons" => ((k_here; refine Stop.out ?_))
  k_with "my eval ListComp Tuple cons" => ((k_here; refine Stop.out ?_))
  k_with "my m_loc" => (first
  | exact rfl
  | with_reducible assumption
  | (refine Eq.trans (if_neg (by decide)) ?_; walk_at "m_loc")
  | ((with_reducible rename (∀ y : PySem.Str, y ≠ _ → _ = _) => hm9); refine Eq.trans (hm9 _ (by decide)) ?_; walk_at "m_loc"))
  k_with "my truthy ref" => ((k_here; (with_reducible show wpAny _ _ (truthy (Value.ref _)) _ _ _); k_dflt (refine' kgr_truthy ?N ?hm ?hc ?hd ?hf ?_; (case N => k_asm); (case hm => k_mem); (case hc => exact rfl); (case hd => exact rfl); (case hf => ((try simp only [strValues_length, List.length_append, List.length_cons, List.length_nil]); omega)); k_whole; (simp only [snoc_isEmpty, List.isEmpty_nil, Bool.not_true, Bool.not_false]))))
  k_with "my call builtin:list.append" => ((k_here; (with_reducible show wpAny _ _ (call (Value.builtin _) [Value.ref _, _]) _ _ _); k_dflt (refine' my_append ?F ?N ?U ?z ?_; (case F => k_asm); (case N => k_asm); (case U => k_upd); (case z => (rw [PySem.sizeLine_eq]; (try simp only [strValues_length, List.length_append, List.length_cons, List.length_nil]); omega)); k_whole; intro _ _ _; (try k_sweep))))
  k_with "my call builtin:list.pop" => ((k_here; (with_reducible show wpAny _ _ (call (Value.builtin _) [Value.ref _]) _ _ _); k_dflt (refine' my_pop ?F ?N ?U ?z ?_; (case F => k_asm); (case N => k_asm); (case U => k_upd); (case z => (rw [PySem.sizeLine_eq]; (try simp only [strValues_length, List.length_append, List.length_cons, List.length_nil]); omega)); k_whole; intro _ _ _; (try k_sweep))))
  k_with "my subscriptTail Name UnaryOp ref int" => ((k_here; (with_reducible show wpAny _ _ (subscriptTail _ _ (Value.ref _) (Value.int _ _)) _ _ _); k_dflt (refine' my_last ?N ?hm ?_; (case N => k_asm); (case hm => k_mem); k_whole)))
  k_with "my call builtin:str.join" => ((k_here; (with_reducible show wpAny _ _ (call (Value.builtin _) [Value.str _ _, Value.ref _]) _ _ _); k_dflt (refine' join_list (News.isList ?N ?hm) ?S ?ok ?_; (case N => k_asm); (case hm => k_mem); (case S => with_reducible assumption); (case ok => ((simp only [show (Str.ofString "/").length = 1 from rfl, show (Str.ofString "").length = 0 from rfl]); omega)); k_whole; intro _ _)))
  k_with "my binaryOp Add str str" => ((k_here; (with_reducible show wpAny _ _ (binaryOp Operator.Add (Value.str _ _) (Value.str _ _)) _ _ _); k_dflt (refine' SBL.add (hsz := ?z) ?_; (case z => (rw [PySem.sizeLine_eq]; (try simp only [show (Str.ofString "/").length = 1 from rfl]); omega)); k_whole; intro _ _)))
  k_with "my truthy str" => ((k_here; (with_reducible show wpAny _ _ (PySem.truthy (Value.str _ _)) _ _ _); k_dflt (refine' KXt.truthy_pos (K := 16777216) ?za ?zb (Nat.le_refl _) ?_; (case za => omega); (case zb => omega); k_whole; intro _)))
  k_with "my eval Name" => (((k_here; (with_reducible rename NsObj _ _ => nX9); k_dflt (refine' ldVarK (NsObj.ns nX9 (News.get ?N ?hm)) ?hv ?_; (case N => k_asm); (case hm => k_mem); (case hv => with_reducible assumption); k_whole)); (try walk_at "m_hX")))
  k_with "my call builtin:str.join" => ((k_here; (with_reducible show wpAny _ _ (call (Value.builtin _) [Value.str _ _, Value.ref _]) _ _ _); k_dflt (refine' join_list ?hl ?S ?ok ?_; (case hl => exact Heap.IsList.at (by with_reducible assumption) (Fr.keep (by k_asm) _)); (case S => with_reducible assumption); (case ok => ((simp only [show (Str.ofString "/").length = 1 from rfl, show (Str.ofString "").length = 0 from rfl]); omega)); k_whole; intro _ _)))
  k_with "my eval Name" => (((k_here; (with_reducible rename Fr _ _ _ _ => kF); (with_reducible rename NsObj _ _ => nX9); k_dflt (refine' nameG_B kF ?k1 ?k2 ?k3 ?k4 ?k5 ?_ ?k6 ?k7 ?k8 ?k9 ?k10; (case k1 => k_asm); (case k2 => k_asm); (case k3 => k_is); (case k4 => boot_by_name); (case k5 => decide); (case k6 => exact rfl); (case k7 => exact rfl); (case k8 => exact rfl); (case k9 => exact rfl); (case k10 => decide); k_whole)); (try walk_at "m_hF"); (try walk_at "m_hX")))
  k_with "my binaryOp Add ref ref" => ((k_here; (with_reducible show wpAny _ _ (binaryOp Operator.Add (Value.ref _) (Value.ref _)) _ _ _); k_dflt (refine' add_lists ?F ?N (News.isList ?N1 ?m1) (News.isList ?N2 ?m2) ?_ ?z; (case F => k_asm); (case N => k_asm); (case N1 => k_asm); (case m1 => k_mem); (case N2 => k_asm); (case m2 => k_mem); (case z => (rw [PySem.sizeLine_eq]; (try simp only [List.length_append, List.length_cons, List.length_nil]); omega)); k_whole; intro _ _ _; (try k_sweep))))
  k_with "my call builtin:len" => ((k_here; (with_reducible show wpAny _ _ (call _ [Value.ref _]) _ _ _); k_dflt (refine' len_list ?hl ?hf ?_; (case hl => exact Heap.IsList.at (by with_reducible assumption) (Fr.keep (by k_asm) _)); (case hf => ((simp only [List.size_toArray]); omega)); k_whole; (try simp only [List.size_toArray]))))
  k_with "my call type:bytes" => ((k_here; (with_reducible show wpAny _ _ (call (Value.type _) [Value.ref _]) _ _ _); k_dflt (refine' bytes_K ?F ?N (News.isList ?N1 ?m1) ?i ?r ?z ?h ?_; (case F => k_asm); (case N => k_asm); (case N1 => k_asm); (case m1 => k_mem); (case i => with_reducible assumption); (case r => with_reducible assumption); (case z => (rw [PySem.sizeLine_eq]; omega)); (case h => exact rfl); k_whole; intro _ _ _ _ _ _; (try k_sweep))))
  k_with "my eval Name" => (((k_here; (with_reducible rename Fr _ _ _ _ => kF); k_dflt (refine' nameX_L kF ?k2 ?_ ?a ?b; (case b => exact rfl); (case a => exact rfl); (case k2 => walk_at "m_loc"); k_whole); (try dsimp only)); (try walk_at "m_hF")))
  k_with "my eval Name" => (((k_here; (with_reducible rename News _ _ _ _ => kN); k_dflt (refine' nameX_C kN ?hc ?hm ?hd ?_ ?a ?b; (case b => exact rfl); (case a => exact rfl); (case hc => exact rfl); (case hm => k_mem); (case hd => with_reducible assumption); k_whole)); (try walk_at "m_hN")))
  k_with "my m_enterC" => ((refine' enterC0 ?k1 ?k2 ?k3 ?k5 ?kA ?kF ?kK ?k6 ?k7 ?k8 ?k9 ?kB ?kD ?_ ?c2 ?c3 ?c4; (case kA => exact rfl); (case kF => exact rfl); (case kK => assumption); (case k1 => k_asm); (case k2 => k_asm); (case k3 => k_asm); (case k5 => k_asm); (case k6 => k_is); (case k7 => k_is); (case k8 => ktr_room); (case k9 => exact BindsTo.of_eq rfl); (case kB => exact rfl); (case kD => decide +kernel); (case c2 => exact rfl); (case c3 => exact rfl); (case c4 => exact rfl); k_whole))
  k_with "my m_startC" => ((refine wpAny_call ?_; k_dflt (walk_at "m_enterC")))
  k_with "my exec For Name Subscript cons nil" => ((k_here; refine Stop.out ?_))
  k_with "my exec For Name Call cons nil" => ((k_here; refine Stop.out ?_))
  k_with "my pyIter ref" => ((k_here; refine Stop.out ?_))
  k_with "my subscriptTail Name Slice ref ref" => ((k_here; (with_reducible show wpAny _ _ (subscriptTail _ (PySem.Expr.Slice none none (some _) _) (Value.ref _) (Value.ref _)) _ _ _); k_dflt (refine' my_rev ?F ?N ?l ?k ?_ ?s ?t ?z; (case F => k_asm); (case N => k_asm); (case l => exact Heap.IsList.at (by with_reducible assumption) (Fr.keep (by k_asm) _)); (case k => exact IsPart.int _ _); (case s => with_unfolding_all rfl); (case t => kmk_pure); (case z => (rw [PySem.sizeLine_eq]; omega))); k_whole; walk_at "m_i5"))
  k_with "my call type:range" => (((k_here; (with_reducible show wpAny _ _ (call (Value.type _) [Value.int _ _]) _ _ _); (with_reducible rename Fr _ _ _ _ => kF); (with_reducible rename News _ _ _ _ => kN); k_dflt (refine' range1_rows kF kN ?_; k_whole; intro _ _ _ _ _ _ _ _ _)); (try walk_at "m_hF"); (try walk_at "m_hN")))
  k_with "my eval Name" => (((k_here; (with_reducible rename NsObj _ _ => nX9); (with_reducible rename News _ _ _ _ => kN); k_dflt (refine' ldFreeK ?hc ?hv ?_ ?hk ?hl; (case hl => exact rfl); (case hk => exact rfl); (case hc => exact rfl); (case hv => exact ⟨_, News.get kN (by k_mem), by with_reducible assumption⟩); k_whole)); (try walk_at "m_hN"); (try walk_at "m_hX")))
  k_with "my compareOp NotEq ref ref" => ((k_here; (with_reducible show wpAny _ _ (compareOp CmpOp.NotEq (Value.ref _) (Value.ref _)) _ _ _); k_dflt (refine' my_neE (News.isList ?N1 ?m1) ?i1 (News.isList ?N2 ?m2) ?u ?_; (case N1 => k_asm); (case m1 => k_mem); (case i1 => with_reducible assumption); (case N2 => k_asm); (case m2 => k_mem); (case u => units_room); k_whole; (try simp only [List.isEmpty_cons, List.isEmpty_nil, Bool.not_true, Bool.not_false]))))
  k_with "my call builtin:max" => ((k_here; (with_reducible show wpAny _ _ (call (Value.builtin _) [Value.ref _]) _ _ _); k_dflt (refine' kso_max ?F ?N (News.isList ?N1 ?m1) ?i1 ?z ?hh ?_; (case F => k_asm); (case N => k_asm); (case N1 => k_asm); (case m1 => k_mem); (case i1 => with_reducible assumption); (case z => (simp only [List.length_cons]; omega)); (case hh => with_unfolding_all rfl); k_whole; intro _ _ _ _ _ _ _ _)))
  k_with "my call builtin:min" => ((k_here; (with_reducible show wpAny _ _ (call (Value.builtin _) [Value.ref _]) _ _ _); k_dflt (refine' kso_min ?F ?N (News.isList ?N1 ?m1) ?i1 ?z ?hh ?_; (case F => k_asm); (case N => k_asm); (case N1 => k_asm); (case m1 => k_mem); (case i1 => with_reducible assumption); (case z => (simp only [List.length_cons]; omega)); (case hh => with_unfolding_all rfl); k_whole; intro _ _ _ _ _ _ _ _)))
  k_with "my m_enterCT" => ((refine' enterCT ?k1 ?k2 ?k3 ?k5 ?kN ?kA ?kF ?kK ?k6 ?k7 ?k8 ?k9 ?kB ?kD ?_ ?c2 ?c3 ?c4; (case kA => exact rfl); (case kF => exact rfl); (case kK => assumption); (case k1 => k_asm); (case k2 => k_asm); (case k3 => k_asm); (case kN => k_asm); (case k5 => k_asm); (case k6 => k_is); (case k7 => k_is); (case k8 => ktr_room); (case k9 => exact BindsTo.of_eq rfl); (case kB => exact rfl); (case kD => decide +kernel); (case c2 => exact rfl); (case c3 => exact rfl); (case c4 => exact rfl); k_whole))
  k_with "my m_startCT" => ((refine wpAny_call ?_; k_dflt (walk_at "m_enterCT")))
  k_with "my setAttr ref" => ((k_here; k_dflt (refine' setattr_K ?F ?N ?U ?_; (case F => k_asm); (case N => k_asm); (case U => k_updF); k_whole); walk_at "m_i8"))
  k_with "my getMethod ref" => ((k_here; k_dflt (refine' getread_K ?N ?h1 ?h2 ?hn ?h3 ?_; (case N => k_asm); (case h1 => k_mem); (case h2 => k_mem); (case hn => with_reducible assumption); (case h3 => k_mem); k_whole); intro _))
  k_with "my exec FunctionDef" => ((k_here; k_dflt (refine' nestDef_K ?d0 ?k0 ?a0 ?_; (case d0 => exact rfl); (case k0 => exact rfl); (case a0 => exact rfl)); refine Stop.out ?_))
  k_with "my eval Lambda" => ((k_here; k_dflt (refine' kla_eval ?d0 ?_; (case d0 => exact rfl)); refine Stop.out ?_))
  k_with "my exec Raise some none" => ((k_here; refine Raise_new rfl ?_))
  k_with "my eval Name" => (k_here; dsimp only)
  k_with "my eval Constant int" => (k_here; dsimp only)
  k_with "my eval Constant str" => (k_here; dsimp only)
  k_with "my m_fold" => (((first | (with_reducible show wpAny _ _ (PySem.execs _ _) _ _ _) | (with_reducible show wpAny _ _ (PySem.exec _ _) _ _ _)); (first | ((fail_if_success (have := qk0)); k_fold; (rename PySem.Flow → PySem.Shared → Prop => qk0); (rename PySem.Value → PySem.Shared → Prop => ek0)) | ((fail_if_success (have := qk1)); k_fold; (rename PySem.Flow → PySem.Shared → Prop => qk1); (rename PySem.Value → PySem.Shared → Prop => ek1)) | ((fail_if_success (have := qk2)); k_fold; (rename PySem.Flow → PySem.Shared → Prop => qk2); (rename PySem.Value → PySem.Shared → Prop => ek2)) | ((fail_if_success (have := qk3)); k_fold; (rename PySem.Flow → PySem.Shared → Prop => qk3); (rename PySem.Value → PySem.Shared → Prop => ek3)) | ((fail_if_success (have := qk4)); k_fold; (rename PySem.Flow → PySem.Shared → Prop => qk4); (rename PySem.Value → PySem.Shared → Prop => ek4)) | ((fail_if_success (have := qk5)); k_fold; (rename PySem.Flow → PySem.Shared → Prop => qk5); (rename PySem.Value → PySem.Shared → Prop => ek5)) | ((fail_if_success (have := qk6)); k_fold; (rename PySem.Flow → PySem.Shared → Prop => qk6); (rename PySem.Value → PySem.Shared → Prop => ek6)) | ((fail_if_success (have := qk7)); k_fold; (rename PySem.Flow → PySem.Shared → Prop => qk7); (rename PySem.Value → PySem.Shared → Prop => ek7)) | ((fail_if_success (have := qk8)); k_fold; (rename PySem.Flow → PySem.Shared → Prop => qk8); (rename PySem.Value → PySem.Shared → Prop => ek8)) | ((fail_if_success (have := qk9)); k_fold; (rename PySem.Flow → PySem.Shared → Prop => qk9); (rename PySem.Value → PySem.Shared → Prop => ek9)) | ((fail_if_success (have := qk10)); k_fold; (rename PySem.Flow → PySem.Shared → Prop => qk10); (rename PySem.Value → PySem.Shared → Prop => ek10)) | ((fail_if_success (have := qk11)); k_fold; (rename PySem.Flow → PySem.Shared → Prop => qk11); (rename PySem.Value → PySem.Shared → Prop => ek11)) | ((fail_if_success (have := qk12)); k_fold; (rename PySem.Flow → PySem.Shared → Prop => qk12); (rename PySem.Value → PySem.Shared → Prop => ek12)) | ((fail_if_success (have := qk13)); k_fold; (rename PySem.Flow → PySem.Shared → Prop => qk13); (rename PySem.Value → PySem.Shared → Prop => ek13)) | ((fail_if_success (have := qk14)); k_fold; (rename PySem.Flow → PySem.Shared → Prop => qk14); (rename PySem.Value → PySem.Shared → Prop => ek14)) | ((fail_if_success (have := qk15)); k_fold; (rename PySem.Flow → PySem.Shared → Prop => qk15); (rename PySem.Value → PySem.Shared → Prop => ek15)))))
  k_with "my m_tidy" => (((try clear qk15); (try clear ek15)); ((try clear qk14); (try clear ek14)); ((try clear qk13); (try clear ek13)); ((try clear qk12); (try clear ek12)); ((try clear qk11); (try clear ek11)); ((try clear qk10); (try clear ek10)); ((try clear qk9); (try clear ek9)); ((try clear qk8); (try clear ek8)); ((try clear qk7); (try clear ek7)); ((try clear qk6); (try clear ek6)); ((try clear qk5); (try clear ek5)); ((try clear qk4); (try clear ek4)); ((try clear qk3); (try clear ek3)); ((try clear qk2); (try clear ek2)); ((try clear qk1); (try clear ek1)); ((try clear qk0); (try clear ek0)))
  k_with "my execs cons" => (first | (k_here; k_gentoks) | (k_here; walk_at "m_fold") | (k_here; walk_at "m_tidy"; (with_reducible refine wpAny_execs_cons ?_); (try dsimp only); (try walk_at "m_fold")))
  trivial

set_option maxHeartbeats 8000000 in
theorem read_spec (w : World) (bs : Array UInt8) (ks : List Int) (tb : Tok) (hbi : KBw.bInts bs = ks) (hks : ks.length ≤ 25000)
    (p : Program) (loose : List Str) (mean : ExcName → Option Value) (mg mb : Str → Option Value) (dp un : Nat) (gd : Option (List Code)) (cn : Str) (cs : Scope) (a : Addr) (ccd : Value) (cl : List (Str × Addr))
    (outer : List Env) (A₀ : Around) (base h₀ : Heap) (L : Addr) (m : Str → Option Value) (s : Shared) (Q E : Value → Shared → Prop) (own : List (Addr × Obj)) (hown : TabRO 210 readQual 242 4 246 13 own) (hfull : parseAll ks = none → own ≠ [(210, tabObj #[])])
    (B : Below A₀ base outer h₀) (F : Fr h₀ L s.heap m) (X : (hd.heap_39 w.params).In h₀) (T : Top p loose mean mg mb h₀) (hk : cs.kind = .function) (hd : dp + 40 < recursionLimit) (hu : un + 320 < cLine) (N : News h₀ L s.heap own)
    (hret : ∀ ws v h' tk' c1 c2 oc, parseAll ks = some ws → CodeO readQual oc → (own = [(210, tabObj #[])] ∧ s.heap.get? c1 = none ∨ own = [(210, tabObj (psTwo 242 4 246 13 c1 c2)), (c1, oc)]) → h'.get? 210 = some (tabObj (psTwo 242 4 246 13 c1 c2)) → h'.get? c1 = some oc →
      (∀ b o, b ∉ own.map (·.1) → s.heap.get? b = some o → h'.get? b = some o) → ListAt h' WordAt v ws → Q v { s with heap := h', toks := tk' })
    (hbad : parseAll ks = none → ∀ e a0 h' tk', Heap.FlyingW (hideAll s.heap (frs (envX cn cs L a ccd cl :: outer))) (envX cn cs L a ccd cl :: outer) e (.type "ValueError") a0 h' → (hideAll s.heap (own.map (·.1))).UpToSlots h' → E (.ref e) { s with heap := h', toks := tk' }) :
    wpAny (model PP w) (ktrTop dp un gd cn cs L a ccd cl outer) (call (.ref 213) [.bytes bs tb]) Q E s := by
  walk_at "m_startCT"
  intro g L' h₁ tk cells hg F' N' Y' lt' B' X' T'
  refine hide ?_
  intro Gq hGq
  obtain ⟨o2, o1, hE, d2, d1⟩ := PyProof.Rows.CellsAre.two Y'
  refine hGq ?_
  clear hGq Gq
  subst hE
  clear Y'
  replace d1 : o1.data = .cell none := d1.trans (by kernel_rfl)
  replace d2 : o2.data = .cell none := d2.trans (by kernel_rfl)
  obtain ⟨m0, F', hoct⟩ : ∃ m0, Fr g L' h₁ m0 ∧ m0 (Str.ofString "octets") = some (.bytes bs tb) := ⟨_, F', by kernel_rfl⟩
  replace N' : News g L' h₁ ((L' + 1 + 1, o2) :: (L' + 1, o1) :: own) := N'
  have hP : 210 < L' := by
    rcases hown with rfl | ⟨x, y, z, rfl, -⟩ <;> exact lt' _ (.head _)
  have hoff : OwnOff own [L' + 1 + 1, L' + 1] := fun q hq b hb => by
    have h1 : @LT.lt Nat _ q.1 L' := lt' q hq
    rcases List.mem_cons.mp hb with rfl | hb
    · exact Nat.ne_of_lt (Nat.lt_succ_of_lt (Nat.lt_succ_of_lt h1))
    · rw [List.mem_singleton.mp hb]; exact Nat.ne_of_lt (Nat.lt_succ_of_lt h1)
  k_lt2 hP
  have C : CodeHd g 212 210 := codeHd_of_K X' (by kernel_rfl)
  try dsimp only
  clear B F X T
  (all_goals try walk_at "m_fold")
  k_steps
  with_reducible rename Fr _ _ _ _ => F1
  with_reducible rename News _ _ _ _ => N1
  rename_i lst hA lA hB o2' d2'
  refine Stop.go (defE (pre := [(lst, W.listOf #[Value.bytes bs tb] 0), (L' + 1 + 1, o2'), (L' + 1, o1)]) F1 N1 T' C rfl hown ?_ ?_ rfl ?_)
  · intro q hq
    simp only [List.mem_cons, List.mem_nil_iff, or_false] at hq
    rcases hq with rfl | rfl | rfl <;> k_ne
  · intro q hq p hp
    simp only [List.mem_cons, List.mem_nil_iff, or_false] at hp
    rcases hp with rfl | rfl | rfl
    · exact (allLt_ne lA.2.2 q hq).symm
    · exact (hoff q hq _ (.head _)).symm
    · exact (hoff q hq _ (.tail _ (.head _))).symm
  intro fr cc oc ctv doc hC tkC ps FC NC hoc hps lfr hPf hcf hcP hcq
  replace NC : News g L' hC [(fr, _), (lst, W.listOf #[Value.bytes bs tb] 0), (L' + 1 + 1, o2'), (L' + 1, o1), (210, tabObj ps), (cc, oc)] := NC
  clear F1 N1
  have hcl := neN (hcq _ (.head _))
  have hc2 := neN (hcq _ (.tail _ (.head _)))
  have hc1 := neN (hcq _ (.tail _ (.tail _ (.head _))))
  dsimp only at hcl hc2 hc1
  replace hcP := neN hcP
  clear hcq
  k_lt lfr
  k_lt2 hPf
  k_lt2 hcf
  (all_goals try walk_at "m_fold")
  k_steps
  with_reducible rename Fr _ _ _ _ => F2
  with_reducible rename News _ _ _ _ => N2
  refine Stop.go (lamE (pre := [(fr, _), (lst, W.listOf #[Value.bytes bs tb] 0), (L' + 1 + 1, o2'), (L' + 1, o1)]) F2 N2 T' C rfl hps ?_ hcP rfl rfl ?_)
  · intro q hq
    simp only [List.mem_cons, List.mem_nil_iff, or_false] at hq
    rcases hq with rfl | rfl | rfl | rfl <;> k_ne
  intro st ctv2 hD tkD cb FD ND hps2 lst2 hPs hcs
  replace ND : News g L' hD [(st, _), (fr, _), (lst, W.listOf #[Value.bytes bs tb] 0), (L' + 1 + 1, o2'), (L' + 1, o1), (210, _), (cc, oc)] := ND
  clear F2 N2 hps
  k_lt lst2
  k_lt2 hPs
  k_lt2 hcs
  (all_goals try walk_at "m_fold")
  k_steps
  refine Stop.go (eval_comp (cl := [(Str.ofString "stream", L' + 1)]) (by rfl) rfl (by decide) ?_)
  (all_goals try walk_at "m_fold")
  k_steps
  with_reducible rename Fr _ _ _ _ => F3
  with_reducible rename News _ _ _ _ => N3
  rename_i hz oSt dSt DD oD hE tkE nX lDD
  have hsz : s.heap.objs.size ≤ L' := by
    have h2 := F3.above
    rw [← hg, hideAll_size] at h2
    exact h2
  dsimp only at hps2
  refine hide ?_
  intro Gq hGq
  obtain ⟨a1, a2, a3, a4, a5⟩ : @Ne Nat lst DD ∧ @Ne Nat lst st ∧ @Ne Nat lst fr ∧ @Ne Nat lst (L' + 1 + 1) ∧ @Ne Nat lst cc := ⟨by omega, by omega, by omega, by omega, by omega⟩
  refine hGq ?_
  clear hGq Gq
  refine hide ?_
  intro Gq hGq
  obtain ⟨rd, fdS, N4, ok⟩ : ∃ rd fdS, News g L' hE [(lst, W.listOf #[.bytes bs tb] 0), (DD, oD), (st, fnObjD fdS DD), (fr, rd), (L' + 1 + 1, o2'), (cc, oc), (L' + 1, oSt), (210, tabObj (psTwo 242 4 246 13 cc cb))] ∧ RdOk w st DD fr lst (L' + 1 + 1) cc oD oc o2' rd := by
    refine' ⟨_, _, News.sub N3 ?sub, ?ok⟩
    case sub => k_allIn
    case ok => exact ⟨nX, ⟨_, _, _, _, _, _, ⟨_, _, _, _, _, _, _, _, _, _, _, _, by k_is, rfl⟩, rfl⟩, hoc, d2', a1, a2, a3, a4, a5⟩
  refine hGq ?_
  clear hGq Gq
  refine map_hide F3 fun m3 _ F4 => ?_
  clear F3 N3
  have back : ∀ {hc : Heap} {mc : Str → Option Value}, Fr g L' hc mc → News g L' hc [(cc, oc), (210, tabObj (psTwo 242 4 246 13 cc cb))] → parseAll ks = none → ∀ l, (hideAll s.heap (frs (envX cn cs L a ccd cl :: outer))).StaysIn (hideAll hc (lst :: frs (envOfC (Str.ofString "_law_read") l L' 213 (.ref 212) :: envX cn cs L a ccd cl :: outer))) := by
    intro hc mc Fc Nc hpn sc b o e1
    have e2 := of_hideAll _ e1
    have hb : b ∉ frs (envX cn cs L a ccd cl :: outer) := fun q => by rw [hideAll_none _ q] at e1; cases e1
    have hlt : b < s.heap.objs.size := Heap.lt_size e2
    have hbL : @LT.lt Nat _ b L' := Nat.lt_of_lt_of_le hlt hsz
    have hfl : own = [(210, tabObj (psTwo 242 4 246 13 cc cb)), (cc, oc)] := hps2.resolve_left fun q => hfull hpn q.1
    refine hideAll_get _ ?_ fun q => ?_
    · by_cases hm : b ∈ own.map (·.1)
      · obtain ⟨q, hq, rfl⟩ := List.mem_map.mp hm
        have e3 := (N q hq).1
        rw [e2] at e3
        cases e3
        rw [hfl] at hq
        rcases List.mem_cons.mp hq with rfl | hq
        · exact (Nc _ (.tail _ (.head _))).1
        · rw [List.mem_singleton.mp hq]; exact (Nc _ (.head _)).1
      · exact Fc.keep b o (hg ▸ hideAll_get _ e2 hm)
    · rcases List.mem_cons.mp q with q | q
      · have h7 : @LT.lt Nat _ lst L' := q ▸ hbL
        have h8 := lA.2.1
        omega
      · rcases mem_frs q with q | q
        · cases q; exact absurd hbL (Nat.lt_irrefl _)
        · exact hb q
  refine useRd (bs := bs) (tb := tb) (n := 0) (uint_spec w ks hks) B' F4 X' T' N4 hbi ok rfl ?kD ?kU (fun q hq => (List.mem_append_left _ hq : q ∈ RdL st DD fr lst (L' + 1 + 1) cc fdS oD oc o2' rd bs tb 0 ++ [(L' + 1, oSt), (210, tabObj (psTwo 242 4 246 13 cc cb))])) (.head ?kk) ?_ ?_
  case kD => ktr_room
  case kU => ktr_units
  case kk => k_all
  rotate_left
  · rintro rfl e a0 h2 tk2 R2 U2
    refine leave_any (Around.frames_deeper B'.stack) rfl (AnyW.of_flying R2) fun h3 R3 U3 => ?_
    exact hbad rfl _ _ _ _ (flyingW_base (back F4 (News.sub N4 (by k_allIn)) rfl _) R3) (ups_own hg F4 (N4 _ (.head _)).2.2 U2 U3)
  · rintro v h2 tk2 b2 k2 t2 hq0 e2 kb F5 N5
    ((try dsimp only); (try walk_at "m_fold"))
    refine hide ?_
    intro Gq hGq
    obtain ⟨x, tx, rfl, rfl⟩ := hq0
    refine hGq ?_
    clear hGq Gq
    have hx := (KBw.ints_in (hbi ▸ List.Mem.head _ : x ∈ KBw.bInts bs))
    obtain ⟨xn, rfl⟩ : ∃ xn : Nat, x = (xn : Int) := ⟨x.toNat, by omega⟩
    clear F4 N4
    (all_goals try walk_at "m_fold")
    k_steps
    with_reducible rename News _ _ _ _ => N6
    with_reducible rename Fr _ _ _ _ => F6
    with_reducible rename IsRange _ _ _ _ _ _ _ _ => hR
    have hk2 : k2.length ≤ 25000 := Nat.le_trans (Nat.le_succ _) hks
    have hfs : ∀ C : Addr, @LT.lt Nat _ L' C → C ∉ frs (envOf (Str.ofString "") sc0 L' 213 .none :: envX cn cs L a ccd cl :: outer) := by
      intro C hC q
      rcases mem_frs q with q | q
      · cases q; exact Nat.lt_irrefl _ hC
      · obtain ⟨o, ho, _⟩ := (B'.frames.mem q).2
        have := Heap.lt_size ho
        rw [← hg, hideAll_size] at this
        exact absurd hC (Nat.not_lt.mpr (Nat.le_of_lt (Nat.lt_of_lt_of_le this hsz)))
    refine map_hide F6 fun m5 hm5 F7 => ?_
    refine Stop.go ?_
    refine comp_range (n := xn) (m₀ := m5) (news₀ := _) (fun i outs news => ∃ b k3 t3 own2 ws, parseI i k2 = some (ws, k3) ∧ KBw.bInts b = k3 ∧ news = (lst, W.listOf #[.bytes b t3] 0) :: (DD, oD) :: (st, fnObjD fdS DD) :: (fr, rd) :: (L' + 1 + 1, o2') :: (cc, oc) :: (L' + 1, oSt) :: (210, tabObj (psTwo 242 4 246 13 cc cb)) :: own2 ∧
        All2 (WordIn own2) outs ws ∧ OwnOff own2 [lst]) (ThrownIn s own (envX cn cs L a ccd cl :: outer) L' ((xn : Int) :: k2))
      rfl hR (by omega) (by decide) rfl rfl F7 N6 ⟨b2, k2, t2, [], [], rfl, e2, rfl, .nil, fun p hp => nomatch hp⟩ ?_ ?_ ?_
    · rintro C D x s' hq0
      ((try dsimp only); (try walk_at "m_fold"))
      refine hide ?_
      intro Gq hGq
      obtain ⟨e, a0, h', tk', mC, rfl, rfl, hA, hn, hCs, hCf, hu9, hp⟩ := hq0
      refine hGq ?_
      clear hGq Gq
      refine comp_throw (Around.frames_deeper B'.stack) rfl (anyW_env hA rfl (by intro q; cases q)) hn ?_ hCf fun h2 A2 U2 => ?_
      · cases q : (hideAll s.heap (frs (envX cn cs L a ccd cl :: outer))).get? C with
        | none => rfl
        | some o => exact absurd (Heap.lt_size (of_hideAll _ q)) (Nat.not_lt.mpr hCs)
      · refine leave_any (Around.frames_deeper B'.stack) rfl A2 fun h3 R3 U3 => ?_
        exact hbad hp _ _ _ _ R3 ((ups_hide hCs hu9 U2).trans U3)
    · rintro i u outs news₁ h6 tk6 I oI D C oC mC nD hi hq0 hnC hmC hne2 hI2 hDC hID Fh Nh
      ((try dsimp only); (try walk_at "m_fold"))
      refine hide ?_
      intro Gq hGq
      obtain ⟨b, k3, t3, own2, ws, hp, hb3, rfl, hws, hoff2⟩ := hq0
      refine hGq ?_
      clear hGq Gq
      refine wpAny_tests_nil ?_
      rw [if_pos rfl]
      clear F6 F7 N6 hR hm5
      replace Fh : Fr g L' h6 _ := Fh
      replace Nh : News g L' h6 _ := Nh
      have hlI := neN (hne2 _ (.head _)).1
      have hlD := neN (hne2 _ (.head _)).2.1
      have hlC := neN (hne2 _ (.head _)).2.2
      dsimp only at hlI hlD hlC
      k_lt2 hDC
      k_lt2 hID
      have hIL : @LT.lt Nat _ L' I := by
        have h7 : @LT.lt Nat _ lst I := hI2 _ (.head _)
        have h8 := lA.2.1
        omega
      have hk3 := Nat.le_trans (parseI_len hp).1 hk2
      have hl2 : @Ne Nat lst (L' + 1) := by omega
      have hl210 : @Ne Nat lst 210 := by omega
      have none1 : parse1 k3 = none → parseAll ((xn : Int) :: k2) = none := fun h => by
        have h1 : parseI (i + 1) k2 = none := by
          show (parseI i k2).bind _ = none
          rw [hp]
          show (parse1 k3).map _ = none
          rw [h]; rfl
        show (parseI ((xn : Int).toNat) k2).map _ = none
        rw [Int.toNat_natCast, parseI_none h1 hi]; rfl
      (all_goals try walk_at "m_fold")
      k_steps
      with_reducible rename Fr _ _ _ _ => F8
      with_reducible rename News _ _ _ _ => N8
      refine useRd (bs := b) (tb := t3) (n := 0) (uint_spec w k3 hk3) B' F8 X' T' N8 hb3 ok rfl ?kD ?kU (by k_allIn) (by k_updF) ?_ ?_
      case kD => ktr_room
      case kU => ktr_units
      rotate_left
      · rintro hnil e a0 h9 tk9 R9 U9
        have hpn : parse1 k3 = none := by rw [hnil]; rfl
        refine ⟨e, a0, h9, tk9, mC, rfl, rfl, anyW_env (AnyW.of_flying (flyingW_base (back F8 (News.sub N8 (by k_allIn)) (none1 hpn) _) R9)) rfl (by intro q; cases q), ?_, ?_, hfs C (by omega), ups_own hg F8 (N8 (lst, _) (.tail _ (.tail _ (.tail _ (.head _))))).2.2 U9 (Heap.UpToSlots.refl _), none1 hpn⟩
        · exact U9.ns (hnC.ns (hideAll_get _ (N8 (C, oC) (.tail _ (.tail _ (.head _)))).1 fun q => hlC (List.mem_singleton.mp q).symm))
        · have h10 : @LE.le Nat _ s.heap.objs.size L' := hsz
          have h11 : @LE.le Nat _ s.heap.objs.size C := by omega
          exact h11
      · rintro v h7 tk7 b7 k7 t7 hq0 e7 kb7 F9 N9
        ((try dsimp only); (try walk_at "m_fold"))
        refine hide ?_
        intro Gq hGq
        obtain ⟨x, tx, rfl, rfl⟩ := hq0
        refine hGq ?_
        clear hGq Gq
        clear F8 N8 kb7
        replace N9 : News g L' h7 ((I, oI) :: (D, W.listOf outs.toArray nD) :: (C, oC) :: (lst, W.listOf #[.bytes b7 t7] 0) :: (DD, oD) :: (st, fnObjD fdS DD) :: (fr, rd) :: (L' + 1 + 1, o2') :: (cc, oc) :: (L' + 1, oSt) :: (210, tabObj (psTwo 242 4 246 13 cc cb)) :: own2) := N9
        have hk7 : k7.length ≤ 25000 := Nat.le_trans (Nat.le_succ _) hk3
        (all_goals try walk_at "m_fold")
        k_steps
        with_reducible rename Fr _ _ _ _ => F10
        with_reducible rename News _ _ _ _ => N10
        refine useRd (bs := b7) (tb := t7) (n := 0) (str1_spec w k7 hk7) B' F10 X' T' N10 e7 ok rfl ?kD ?kU (by k_allIn) (by k_updF) ?_ ?_
        case kD => ktr_room
        case kU => ktr_units
        rotate_left
        · rintro hor e a0 h9 tk9 R9 U9
          have hpn : parse1 (x :: k7) = none := by
            rcases hor with rfl | ⟨y, r, rfl, hlt⟩
            · rfl
            · exact if_neg (by omega)
          refine ⟨e, a0, h9, tk9, mC, rfl, rfl, anyW_env (AnyW.of_flying (flyingW_base (back F10 (News.sub N10 (by k_allIn)) (none1 hpn) _) R9)) rfl (by intro q; cases q), ?_, ?_, hfs C (by omega), ups_own hg F10 (N10 (lst, _) (.tail _ (.tail _ (.tail _ (.head _))))).2.2 U9 (Heap.UpToSlots.refl _), none1 hpn⟩
          · exact U9.ns (hnC.ns (hideAll_get _ (N10 (C, oC) (.tail _ (.tail _ (.head _)))).1 fun q => hlC (List.mem_singleton.mp q).symm))
          · have h10 : @LE.le Nat _ s.heap.objs.size L' := hsz
            have h11 : @LE.le Nat _ s.heap.objs.size C := by omega
            exact h11
        · rintro v h8 tk8 b8 k8 t8 hq0 e8 kb8 F11 N11
          ((try dsimp only); (try walk_at "m_fold"))
          refine hide ?_
          intro Gq hGq
          obtain ⟨y, r, ty, rfl, hle, rfl, rfl⟩ := hq0
          refine hGq ?_
          clear hGq Gq
          clear F10 N10 kb8
          replace N11 : News g L' h8 ((I, oI) :: (D, W.listOf outs.toArray nD) :: (C, oC) :: (lst, W.listOf #[.bytes b8 t8] 0) :: (DD, oD) :: (st, fnObjD fdS DD) :: (fr, rd) :: (L' + 1 + 1, o2') :: (cc, oc) :: (L' + 1, oSt) :: (210, tabObj (psTwo 242 4 246 13 cc cb)) :: own2) := N11
          (all_goals try walk_at "m_fold")
          k_steps
          with_reducible rename Fr _ _ _ _ => F12
          with_reducible rename News _ _ _ _ => N12
          rename_i T9 hT9 lT9
          refine MakeEnd.go ((lst, W.listOf #[.bytes b8 t8] 0) :: (DD, oD) :: (st, fnObjD fdS DD) :: (fr, rd) :: (L' + 1 + 1, o2') :: (cc, oc) :: (L' + 1, oSt) :: (210, tabObj (psTwo 242 4 246 13 cc cb)) :: (T9, tupObj #[.int x tx, .str (latin (List.take y.toNat r)) ty]) :: own2) F12 N12 (by k_allIn) ?_ ?_ ⟨b8, _, t8, (T9, tupObj #[.int x tx, .str (latin (List.take y.toNat r)) ty]) :: own2, ws ++ [(x, latin (List.take y.toNat r))], ?_, e8, rfl, ?_, ?_⟩
          · exact List.forall_mem_cons.mpr ⟨by k_mem, List.forall_mem_cons.mpr ⟨by k_mem, List.forall_mem_cons.mpr ⟨by k_mem, List.forall_mem_cons.mpr ⟨by k_mem, List.forall_mem_cons.mpr ⟨by k_mem, List.forall_mem_cons.mpr ⟨by k_mem, List.forall_mem_cons.mpr ⟨by k_mem, List.forall_mem_cons.mpr ⟨by k_mem, List.forall_mem_cons.mpr ⟨by k_mem, fun p hp => by k_ownIn⟩⟩⟩⟩⟩⟩⟩⟩⟩
          · refine off3 (List.forall_mem_cons.mpr ⟨hne2 (lst, W.listOf #[.bytes b t3] 0) (.head _), List.forall_mem_cons.mpr ⟨hne2 _ (.tail _ (.head _)), List.forall_mem_cons.mpr ⟨hne2 _ (.tail _ (.tail _ (.head _))), List.forall_mem_cons.mpr ⟨hne2 _ (.tail _ (.tail _ (.tail _ (.head _)))), List.forall_mem_cons.mpr ⟨hne2 _ (.tail _ (.tail _ (.tail _ (.tail _ (.head _))))), List.forall_mem_cons.mpr ⟨hne2 _ (.tail _ (.tail _ (.tail _ (.tail _ (.tail _ (.head _)))))), List.forall_mem_cons.mpr ⟨hne2 _ (.tail _ (.tail _ (.tail _ (.tail _ (.tail _ (.tail _ (.head _))))))), List.forall_mem_cons.mpr ⟨hne2 _ (.tail _ (.tail _ (.tail _ (.tail _ (.tail _ (.tail _ (.tail _ (.head _)))))))), List.forall_mem_cons.mpr ⟨⟨Nat.ne_of_gt lT9.1, Nat.ne_of_gt lT9.2.1, Nat.ne_of_gt lT9.2.2.1⟩, fun p hp => hne2 p (.tail _ (.tail _ (.tail _ (.tail _ (.tail _ (.tail _ (.tail _ (.tail _ hp))))))))⟩⟩⟩⟩⟩⟩⟩⟩⟩)
          · show (parseI i k2).bind _ = some (ws ++ [_], _)
            rw [hp]
            show (parse1 (x :: y :: r)).map _ = some (ws ++ [_], _)
            rw [show parse1 (x :: y :: r) = some ((x, latin (r.take y.toNat)), r.drop y.toNat) from if_pos hle]
            rfl
          · exact (hws.mono fun _ _ z => z.mono fun p hp => .tail _ hp).snoc ⟨T9, tx, ty, rfl, .head _⟩
          · exact fun p hp b' hb' => by
              rw [List.mem_singleton.mp hb']
              rcases List.mem_cons.mp hp with rfl | hp
              · exact Nat.ne_of_gt lT9.2.2.2.1
              · exact hoff2 p hp _ (.head _)
    · rintro outs news₁ h9 tk9 D9 nD9 hq0 Fh Nh hne9 hlt9
      ((try dsimp only); (try walk_at "m_fold"))
      refine hide ?_
      intro Gq hGq
      obtain ⟨b, k3, t3, own2, ws, hp, hb3, rfl, hws, hoff2⟩ := hq0
      refine hGq ?_
      clear hGq Gq
      replace Nh : News g L' h9 ((D9, W.listOf outs.toArray nD9) :: (lst, W.listOf #[.bytes b t3] 0) :: (DD, oD) :: (st, fnObjD fdS DD) :: (fr, rd) :: (L' + 1 + 1, o2') :: (cc, oc) :: (L' + 1, oSt) :: (210, tabObj (psTwo 242 4 246 13 cc cb)) :: own2) := Nh
      replace Fh : Fr g L' h9 _ := Fh
      have N2 : News g L' h9 own2 := fun p hp => Nh p (.tail _ (.tail _ (.tail _ (.tail _ (.tail _ (.tail _ (.tail _ (.tail _ (.tail _ hp)))))))))
      refine hret ws _ _ _ cc cb oc ?_ hoc ?_ (Nh (210, _) (by k_mem)).1 (Nh (cc, oc) (by k_mem)).1 (fun b o hb e => Fh.keep b o (hg ▸ hideAll_get _ e hb)) ⟨D9, outs, rfl, News.isList Nh (.head _), hws.mono fun _ _ z => WordIn.at z N2⟩
      · show (parseI ((xn : Int).toNat) k2).map _ = some ws
        rw [Int.toNat_natCast, hp]; rfl
      · rcases hps2 with ⟨q1, q2⟩ | q
        · refine .inl ⟨q1, ?_⟩
          have h10 := q2 _ (.head _)
          exact Heap.get?_none_of_le (Nat.le_of_lt (Nat.lt_of_le_of_lt hsz (Nat.lt_trans (Nat.lt_trans (Nat.lt_succ_self _) lA.2.1) h10)))
        · exact .inr q

theorem fillit_MRef : PySem.Challenge.rw_in0069_01 = PySem.Challenge.rw_in0069_01 ∧ hd.heap_39 = hd.heap_39 := by
  w_top off
  k_fill
  exact ⟨rfl, rfl⟩


example : True := by
  k_with_none
  k_with "my m_enter" => ((refine' enter0 ?k1 ?k2 ?k3 ?k5 ?kA ?kF ?kK ?k6 ?k7 ?k8 ?k9 ?kB ?_ ?c2 ?c3 ?c4 ?c5; (case kA => exact rfl); (case kF => exact rfl); (case kK => assumption); (case k1 => k_asm); (case k2 => k_asm); (case k3 => k_asm); (case k5 => k_asm); (case k6 => k_is); (case k7 => k_is); (case k8 => ktr_room); (case k9 => exact BindsTo.of_eq rfl); (case c5 => decide); (case kB => exact locs rfl); (case c2 => exact rfl); (case c3 => exact rfl); (case c4 => exact rfl); k_whole))
  k_with "my call builtin:issubclass" => ((k_here; (with_reducible show wpAny _ _ (call _ [Value.type _, Value.ref _]) _ _ _); k_dflt (refine' call_iss ?k1 ?_; (case k1 => exact News.get (by k_asm) (by k_mem)))))
  k_with "my m_start" => ((refine wpAny_call ?_; k_dflt (walk_at "m_enter")))
  k_with "my m_use" => (((case kB => k_asm); (case kF => k_asm); (case kX => k_asm); (case kN => k_asm); (case kT => k_asm); (case kK => first | exact rfl | assumption); (case kD => ktr_room); (case kU => ktr_units)))
  k_with "my exec For Name Name cons nil" => ((k_here; refine Stop.out ?_))
  k_with "my exec For Tuple Name cons nil" => ((k_here; refine Stop.out ?_))
  k_with "my eval ListComp Call cons" => ((k_here; refine Stop.out ?_))
  k_with "my eval ListComp Name cons" => ((k_here; refine Stop.out ?_))
  k_with "my eval ListComp BinOp cons" => ((k_here; refine Stop.out ?_))
  k_with "my eval ListComp Tuple cons" => ((k_here; refine Stop.out ?_))
  k_with "my m_loc" => (first
  | exact rfl
  | with_reducible assumption
  | (refine Eq.trans (if_neg (by decide)) ?_; walk_at "m_loc")
  | ((with_reducible rename (∀ y : PySem.Str, y ≠ _ → _ = _) => hm9); refine Eq.trans (hm9 _ (by decide)) ?_; walk_at "m_loc"))
  k_with "my eval Name" => (((k_here; (with_reducible rename Fr _ _ _ _ => kF); k_dflt (refine' ld kF ?k2 ?_; (case k2 => walk_at "m_loc"); k_whole); (try dsimp only)); (try walk_at "m_hF")))
  k_with "my truthy ref" => ((k_here; (with_reducible show wpAny _ _ (truthy (Value.ref _)) _ _ _); k_dflt (refine' kgr_truthy ?N ?hm ?hc ?hd ?hf ?_; (case N => k_asm); (case hm => k_mem); (case hc => exact rfl); (case hd => exact rfl); (case hf => ((try simp only [strValues_length, List.length_append, List.length_cons, List.length_nil]); omega)); k_whole; (simp only [snoc_isEmpty, List.isEmpty_nil, Bool.not_true, Bool.not_false]))))
  k_with "my call builtin:list.append" => ((k_here; (with_reducible show wpAny _ _ (call (Value.builtin _) [Value.ref _, _]) _ _ _); k_dflt (refine' my_append ?F ?N ?U ?z ?_; (case F => k_asm); (case N => k_asm); (case U => k_upd); (case z => (rw [PySem.sizeLine_eq]; (try simp only [strValues_length, List.length_append, List.length_cons, List.length_nil]); omega)); k_whole; intro _ _ _; (try k_sweep))))
  k_with "my call builtin:list.pop" => ((k_here; (with_reducible show wpAny _ _ (call (Value.builtin _) [Value.ref _]) _ _ _); k_dflt (refine' my_pop ?F ?N ?U ?z ?_; (case F => k_asm); (case N => k_asm); (case U => k_upd); (case z => (rw [PySem.sizeLine_eq]; (try simp only [strValues_length, List.length_append, List.length_cons, List.length_nil]); omega)); k_whole; intro _ _ _; (try k_sweep))))
  k_with "my subscriptTail Name UnaryOp ref int" => ((k_here; (with_reducible show wpAny _ _ (subscriptTail _ _ (Value.ref _) (Value.int _ _)) _ _ _); k_dflt (refine' my_last ?N ?hm ?_; (case N => k_asm); (case hm => k_mem); k_whole)))
  k_with "my call builtin:str.join" => ((k_here; (with_reducible show wpAny _ _ (call (Value.builtin _) [Value.str _ _, Value.ref _]) _ _ _); k_dflt (refine' join_list (News.isList ?N ?hm) ?S ?ok ?_; (case N => k_asm); (case hm => k_mem); (case S => with_reducible assumption); (case ok => ((simp only [show (Str.ofString "/").length = 1 from rfl, show (Str.ofString "").length = 0 from rfl]); omega)); k_whole; intro _ _)))
  k_with "my binaryOp Add str str" => ((k_here; (with_reducible show wpAny _ _ (binaryOp Operator.Add (Value.str _ _) (Value.str _ _)) _ _ _); k_dflt (refine' SBL.add (hsz := ?z) ?_; (case z => (rw [PySem.sizeLine_eq]; (try simp only [show (Str.ofString "/").length = 1 from rfl]); omega)); k_whole; intro _ _)))
  k_with "my truthy str" => ((k_here; (with_reducible show wpAny _ _ (PySem.truthy (Value.str _ _)) _ _ _); k_dflt (refine' KXt.truthy_pos (K := 16777216) ?za ?zb (Nat.le_refl _) ?_; (case za => omega); (case zb => omega); k_whole; intro _)))
  k_with "my eval Name" => (((k_here; (with_reducible rename NsObj _ _ => nX9); k_dflt (refine' ldVarK (NsObj.ns nX9 (News.get ?N ?hm)) ?hv ?_; (case N => k_asm); (case hm => k_mem); (case hv => with_reducible assumption); k_whole)); (try walk_at "m_hX")))
  k_with "my call builtin:str.join" => ((k_here; (with_reducible show wpAny _ _ (call (Value.builtin _) [Value.str _ _, Value.ref _]) _ _ _); k_dflt (refine' join_list ?hl ?S ?ok ?_; (case hl => exact Heap.IsList.at (by with_reducible assumption) (Fr.keep (by k_asm) _)); (case S => with_reducible assumption); (case ok => ((simp only [show (Str.ofString "/").length = 1 from rfl, show (Str.ofString "").length = 0 from rfl]); omega)); k_whole; intro _ _)))
  k_with "my eval Name" => (((k_here; (with_reducible rename Fr _ _ _ _ => kF); (with_reducible rename NsObj _ _ => nX9); k_dflt (refine' nameG_B kF ?k1 ?k2 ?k3 ?k4 ?k5 ?_ ?k6 ?k7 ?k8 ?k9 ?k10; (case k1 => k_asm); (case k2 => k_asm); (case k3 => k_is); (case k4 => boot_by_name); (case k5 => decide); (case k6 => exact rfl); (case k7 => exact rfl); (case k8 => exact rfl); (case k9 => exact rfl); (case k10 => decide); k_whole)); (try walk_at "m_hF"); (try walk_at "m_hX")))
  k_with "my binaryOp Add ref ref" => ((k_here; (with_reducible show wpAny _ _ (binaryOp Operator.Add (Value.ref _) (Value.ref _)) _ _ _); k_dflt (refine' add_lists ?F ?N (News.isList ?N1 ?m1) (News.isList ?N2 ?m2) ?_ ?z; (case F => k_asm); (case N => k_asm); (case N1 => k_asm); (case m1 => k_mem); (case N2 => k_asm); (case m2 => k_mem); (case z => (rw [PySem.sizeLine_eq]; (try simp only [List.length_append, List.length_cons, List.length_nil]); omega)); k_whole; intro _ _ _; (try k_sweep))))
  k_with "my call builtin:len" => ((k_here; (with_reducible show wpAny _ _ (call _ [Value.ref _]) _ _ _); k_dflt (refine' len_list ?hl ?hf ?_; (case hl => exact Heap.IsList.at (by with_reducible assumption) (Fr.keep (by k_asm) _)); (case hf => ((simp only [List.size_toArray]); omega)); k_whole; (try simp only [List.size_toArray]))))
  k_with "my call type:bytes" => ((k_here; (with_reducible show wpAny _ _ (call (Value.type _) [Value.ref _]) _ _ _); k_dflt (refine' bytes_K ?F ?N (News.isList ?N1 ?m1) ?i ?r ?z ?h ?_; (case F => k_asm); (case N => k_asm); (case N1 => k_asm); (case m1 => k_mem); (case i => with_reducible assumption); (case r => with_reducible assumption); (case z => (rw [PySem.sizeLine_eq]; omega)); (case h => exact rfl); k_whole; intro _ _ _ _ _ _; (try k_sweep))))
  k_with "my m_enterT" => ((refine' enterT ?k1 ?k2 ?k3 ?k5 ?kN ?kA ?kF ?kK ?k6 ?k7 ?k8 ?k9 ?kB ?_ ?c2 ?c3 ?c4 ?c5; (case kA => exact rfl); (case kF => exact rfl); (case kK => assumption); (case k1 => k_asm); (case k2 => k_asm); (case k3 => k_asm); (case kN => k_asm); (case k5 => k_asm); (case k6 => k_is); (case k7 => k_is); (case k8 => ktr_room); (case k9 => exact BindsTo.of_eq rfl); (case c5 => decide); (case kB => exact locs rfl); (case c2 => exact rfl); (case c3 => exact rfl); (case c4 => exact rfl); k_whole))
  k_with "my m_startT" => ((refine wpAny_call ?_; k_dflt (walk_at "m_enterT")))
  k_with "my call ref" => ((k_here; (with_reducible show wpAny _ _ (call (Value.ref 213) _) _ _ _); refine Stop.out ?_))
  k_with "my eval Name" => (k_here; dsimp only)
  k_with "my eval Constant int" => (k_here; dsimp only)
  k_with "my eval Constant str" => (k_here; dsimp only)
  k_with "my m_fold" => (((first | (with_reducible show wpAny _ _ (PySem.execs _ _) _ _ _) | (with_reducible show wpAny _ _ (PySem.exec _ _) _ _ _)); (first | ((fail_if_success (have := qk0)); k_fold; (rename PySem.Flow → PySem.Shared → Prop => qk0); (rename PySem.Value → PySem.Shared → Prop => ek0)) | ((fail_if_success (have := qk1)); k_fold; (rename PySem.Flow → PySem.Shared → Prop => qk1); (rename PySem.Value → PySem.Shared → Prop => ek1)) | ((fail_if_success (have := qk2)); k_fold; (rename PySem.Flow → PySem.Shared → Prop => qk2); (rename PySem.Value → PySem.Shared → Prop => ek2)) | ((fail_if_success (have := qk3)); k_fold; (rename PySem.Flow → PySem.Shared → Prop => qk3); (rename PySem.Value → PySem.Shared → Prop => ek3)) | ((fail_if_success (have := qk4)); k_fold; (rename PySem.Flow → PySem.Shared → Prop => qk4); (rename PySem.Value → PySem.Shared → Prop => ek4)) | ((fail_if_success (have := qk5)); k_fold; (rename PySem.Flow → PySem.Shared → Prop => qk5); (rename PySem.Value → PySem.Shared → Prop => ek5)) | ((fail_if_success (have := qk6)); k_fold; (rename PySem.Flow → PySem.Shared → Prop => qk6); (rename PySem.Value → PySem.Shared → Prop => ek6)) | ((fail_if_success (have := qk7)); k_fold; (rename PySem.Flow → PySem.Shared → Prop => qk7); (rename PySem.Value → PySem.Shared → Prop => ek7)) | ((fail_if_success (have := qk8)); k_fold; (rename PySem.Flow → PySem.Shared → Prop => qk8); (rename PySem.Value → PySem.Shared → Prop => ek8)) | ((fail_if_success (have := qk9)); k_fold; (rename PySem.Flow → PySem.Shared → Prop => qk9); (rename PySem.Value → PySem.Shared → Prop => ek9)) | ((fail_if_success (have := qk10)); k_fold; (rename PySem.Flow → PySem.Shared → Prop => qk10); (rename PySem.Value → PySem.Shared → Prop => ek10)) | ((fail_if_success (have := qk11)); k_fold; (rename PySem.Flow → PySem.Shared → Prop => qk11); (rename PySem.Value → PySem.Shared → Prop => ek11)) | ((fail_if_success (have := qk12)); k_fold; (rename PySem.Flow → PySem.Shared → Prop => qk12); (rename PySem.Value → PySem.Shared → Prop => ek12)) | ((fail_if_success (have := qk13)); k_fold; (rename PySem.Flow → PySem.Shared → Prop => qk13); (rename PySem.Value → PySem.Shared → Prop => ek13)) | ((fail_if_success (have := qk14)); k_fold; (rename PySem.Flow → PySem.Shared → Prop => qk14); (rename PySem.Value → PySem.Shared → Prop => ek14)) | ((fail_if_success (have := qk15)); k_fold; (rename PySem.Flow → PySem.Shared → Prop => qk15); (rename PySem.Value → PySem.Shared → Prop => ek15)))))
  k_with "my m_tidy" => (((try clear qk15); (try clear ek15)); ((try clear qk14); (try clear ek14)); ((try clear qk13); (try clear ek13)); ((try clear qk12); (try clear ek12)); ((try clear qk11); (try clear ek11)); ((try clear qk10); (try clear ek10)); ((try clear qk9); (try clear ek9)); ((try clear qk8); (try clear ek8)); ((try clear qk7); (try clear ek7)); ((try clear qk6); (try clear ek6)); ((try clear qk5); (try clear ek5)); ((try clear qk4); (try clear ek4)); ((try clear qk3); (try clear ek3)); ((try clear qk2); (try clear ek2)); ((try clear qk1); (try clear ek1)); ((try clear qk0); (try clear ek0)))
  k_with "my execs cons" => (first | (k_here; k_gentoks) | (k_here; walk_at "m_fold") | (k_here; walk_at "m_tidy"; (with_reducible refine wpAny_execs_cons ?_); (try dsimp only); (try walk_at "m_fold")))
  trivial

set_option maxHeartbeats 8000000 in
theorem refused_spec (w : World) (bs : Array UInt8) (ks : List Int) (tb : Tok) (hbi : KBw.bInts bs = ks) (hks : ks.length ≤ 25000) (hpn : parseAll ks = none)
    (p : Program) (loose : List Str) (mean : ExcName → Option Value) (mg mb : Str → Option Value) (dp un : Nat) (gd : Option (List Code)) (cn : Str) (cs : Scope) (a : Addr) (ccd : Value) (cl : List (Str × Addr))
    (A₀ : Around) (base h₀ : Heap) (L : Addr) (m : Str → Option Value) (s : Shared) (Q E : Value → Shared → Prop) (c1 c2 : Addr) (oc : Obj) (hoc : CodeO readQual oc)
    (B : Below A₀ base [] h₀) (F : Fr h₀ L s.heap m) (X : (hd.heap_39 w.params).In h₀) (T : Top p loose mean mg mb h₀) (hk : cs.kind = .function) (hd : dp + 60 < recursionLimit) (hu : un + 480 < cLine) (N : News h₀ L s.heap [(210, tabObj (psTwo 242 4 246 13 c1 c2)), (c1, oc)])
    (hret : ∀ h' tk', (∀ b o, b ≠ L → s.heap.get? b = some o → h'.get? b = some o) → s.heap.UpToSlots h' → Q (.bool true) { s with heap := h', toks := tk' }) :
    wpAny (model PP w) (ktrTop dp un gd cn cs L a ccd cl []) (call (.ref 220) [.bytes bs tb]) Q E s := by
  have T₀ := T
  have X₀ := X
  have F₀ := F
  walk_at "m_startT"
  intro g L' h₁ hg F' N' lt' B' X' T'
  (try dsimp only)
  replace N' : News g L' h₁ [(210, tabObj (psTwo 242 4 246 13 c1 c2)), (c1, oc)] := N'
  clear B F X T
  (all_goals try walk_at "m_fold")
  k_steps
  with_reducible rename Fr g _ _ _ => F1
  have hsz : s.heap.objs.size ≤ L' := by
    have h2 := F1.above
    rw [← hg, hideAll_size] at h2
    exact h2
  have hLs : @LT.lt Nat _ L s.heap.objs.size := F₀.ns.lt
  refine Stop.go (read_spec w bs ks tb hbi hks _ _ _ _ _ _ _ _ _ _ _ _ _ _ _ _ _ _ _ _ _ _ [(210, tabObj (psTwo 242 4 246 13 c1 c2)), (c1, oc)] (.inr ⟨c1, c2, oc, rfl, hoc⟩) (fun _ q => by cases q) B' F1 X' T' rfl ?kD ?kU N' (fun ws v h' tk' d1 d2 oc' hps => absurd (hpn.symm.trans hps) nofun) ?_)
  case kD => ktr_room
  case kU => ktr_units
  intro _ e a0 h2 tk2 R2 U2
  have kept1 : ∀ b o, s.heap.get? b = some o → h₁.get? b = some o := by
    intro b o e1
    by_cases hm : b ∈ [(210, tabObj (psTwo 242 4 246 13 c1 c2)), (c1, oc)].map (·.1)
    · obtain ⟨q, hq, rfl⟩ := List.mem_map.mp hm
      have e3 := (N q hq).1
      rw [e1] at e3
      cases e3
      exact (N' q hq).1
    · exact F1.keep b o (hg ▸ hideAll_get _ e1 hm)
  have hfr : ∀ b, @LT.lt Nat _ b s.heap.objs.size → b ≠ L → ∀ nm sc a' cd', b ∉ frs (envOf nm sc L' a' cd' :: [envX cn cs L a ccd cl]) := by
    intro b hb hbL nm sc a' cd' q
    rcases mem_frs q with q | q
    · cases q; exact absurd hb (Nat.not_lt.mpr hsz)
    · rcases mem_frs q with q | q
      · cases q; exact hbL rfl
      · cases q
  refine wpAny_looks_onW (Around.frames_deeper B'.stack) rfl R2 fun h3 H3 U3 => ?_
  refine wpAny_landsW H3 fun h4 R4 U4 => ?_
  have hns4 : ∃ mm, h4.Ns L' mm := by
    refine ⟨_, U4.ns (U3.ns (U2.ns (F1.ns.at' fun o e1 => hideAll_get _ e1 fun q => ?_)))⟩
    obtain ⟨q1, hq, q2⟩ := List.mem_map.mp q
    exact absurd (lt' q1 hq) (q2 ▸ Nat.lt_irrefl _)
  obtain ⟨mm, hns4⟩ := hns4
  have F4 : Fr h₀ L' h4 mm := by
    refine ⟨hns4, fun b o e1 => ?_, Nat.le_trans F₀.above (Nat.le_trans (Nat.le_of_lt hLs) hsz)⟩
    have e2 := F₀.keep b o e1
    have hbL : b ≠ L := fun q => absurd (Heap.lt_size e1) (q ▸ Nat.not_lt.mpr F₀.above)
    exact R4.1 b o (hideAll_get _ (kept1 b o e2) (hfr b (Heap.lt_size e2) hbL _ _ _ _))
  obtain ⟨ob, hob, hobc⟩ := R4.there
  refine wpAny_handleBy_builtin (X := "ValueError") (T := "ValueError") (b := true) PySem.F.isExc_ValueError PySem.F.notTuple_ValueError (by rw [isSubtype_type]; kernel_rfl) ?_
  refine' nameG_B F4 X₀ T₀ ?k3 ?k4 (by decide) ⟨rfl, ⟨ob, hob, hobc⟩, ?_⟩ rfl rfl rfl rfl (by decide)
  case k3 => k_is
  case k4 => boot_by_name
  rw [if_pos rfl]
  refine lands_againW R4 fun h5 R5 U5 => ?_
  (all_goals try walk_at "m_fold")
  k_steps
  have kept5 : ∀ b o, b ≠ L → s.heap.get? b = some o → h5.get? b = some o := fun b o hb e1 => R5.1 b o (hideAll_get _ (kept1 b o e1) (hfr b (Heap.lt_size e1) hb _ _ _ _))
  refine hret _ _ kept5 fun b o e1 hn => ?_
  by_cases hb : b = L
  · refine (((U2.trans U3).trans U4).trans U5) b o (hideAll_get _ (kept1 b o e1) fun q => ?_) hn
    obtain ⟨q1, hq, q2⟩ := List.mem_map.mp q
    exact (N q1 hq).2.1 (q2.trans hb)
  · exact ⟨o.slots, kept5 b o hb e1⟩

theorem fillit_MTape : PySem.Challenge.rw_in0069_01 = PySem.Challenge.rw_in0069_01 ∧ hd.heap_39 = hd.heap_39 := by
  w_top off
  k_fill
  exact ⟨rfl, rfl⟩

/-- the octets that tell of the words -/
noncomputable def octL (ws : List (Int × Str)) : List Int := ws.flatMap fun o => o.1 :: (o.2.length : Int) :: o.2.cps.toList.map fun c : Nat => (c : Int)
noncomputable def tapeI (ws : List (Int × Str)) : List Int := (ws.length : Int) :: octL ws
def WordOk (o : Int × Str) : Prop := (o.1 = 0 ∨ o.1 = 1) ∧ o.2.length ≤ 200 ∧ ∀ c ∈ o.2.cps.toList, c < 128
theorem ascii_of {x : Str} (h : ∀ c ∈ x.cps.toList, c < 128) : x.cps.all (· < 128) = true := by
  rw [Array.all_eq_true]
  intro i hi
  exact decide_eq_true (h _ (by simp))
theorem octL_snoc {ws : List (Int × Str)} {i : Nat} {o : Int × Str} (h : ws[i]? = some o) : octL (ws.take (i + 1)) = octL (ws.take i) ++ (o.1 :: (o.2.length : Int) :: o.2.cps.toList.map fun c : Nat => (c : Int)) := by
  unfold octL
  rw [take_snoc h, List.flatMap_append]
  simp
theorem octL_le (ws : List (Int × Str)) (hok : ∀ o ∈ ws, WordOk o) : (octL ws).length ≤ 202 * ws.length := by
  unfold octL
  induction ws with
  | nil => simp
  | cons o r ih =>
    have h1 := ih fun x hx => hok x (.tail _ hx)
    have h2 := (hok o (.head _)).2.1
    have h3 : o.2.cps.toList.length = o.2.length := by simp [Str.length]
    simp only [List.flatMap_cons, List.length_append, List.length_cons, List.length_map]
    omega
theorem octL_in {ws : List (Int × Str)} (hok : ∀ o ∈ ws, WordOk o) : ∀ n ∈ octL ws, 0 ≤ n ∧ n < 256 := by
  intro n hn
  obtain ⟨o, ho, hn⟩ := List.mem_flatMap.mp hn
  obtain ⟨h1, h2, h3⟩ := hok o ho
  rcases List.mem_cons.mp hn with rfl | hn
  · omega
  · rcases List.mem_cons.mp hn with rfl | hn
    · omega
    · obtain ⟨c, hc, rfl⟩ := List.mem_map.mp hn
      have := h3 c hc
      omega

example : True := by
  k_with_none
  k_with "my m_enter" => ((refine' enter0 ?k1 ?k2 ?k3 ?k5 ?kA ?kF ?kK ?k6 ?k7 ?k8 ?k9 ?kB ?_ ?c2 ?c3 ?c4 ?c5; (case kA => exact rfl); (case kF => exact rfl); (case kK => assumption); (case k1 => k_asm); (case k2 => k_asm); (case k3 => k_asm); (case k5 => k_asm); (case k6 => k_is); (case k7 => k_is); (case k8 => ktr_room); (case k9 => exact BindsTo.of_eq rfl); (case c5 => decide); (case kB => exact locs rfl); (case c2 => exact rfl); (case c3 => exact rfl); (case c4 => exact rfl); k_whole))
  k_with "my call builtin:issubclass" => ((k_here; (with_reducible show wpAny _ _ (call _ [Value.type _, Value.ref _]) _ _ _); k_dflt (refine' call_iss ?k1 ?_; (case k1 => exact News.get (by k_asm) (by k_mem)))))
  k_with "my m_start" => ((refine wpAny_call ?_; k_dflt (walk_at "m_enter")))
  k_with "my m_use" => (((case kB => k_asm); (case kF => k_asm); (case kX => k_asm); (case kN => k_asm); (case kT => k_asm); (case kK => first | exact rfl | assumption); (case kD => ktr_room); (case kU => ktr_units)))
  k_with "my exec For Name Name cons nil" => ((k_here; refine Stop.out ?_))
  k_with "my exec For Tuple Name cons nil" => ((k_here; refine Stop.out ?_))
  k_with "my eval ListComp Call cons" => ((k_here; refine Stop.out ?_))
  k_with "my eval ListComp Name cons" => ((k_here; refine Stop.out ?_))
  k_with "my eval ListComp BinOp cons" => ((k_here; refine Stop.out ?_))
  k_with "my eval ListComp Tuple cons" => ((k_here; refine Stop.out ?_))
  k_with "my m_loc" => (first
  | exact rfl
  | with_reducible assumption
  | (refine Eq.trans (if_neg (by decide)) ?_; walk_at "m_loc")
  | ((with_reducible rename (∀ y : PySem.Str, y ≠ _ → _ = _) => hm9); refine Eq.trans (hm9 _ (by decide)) ?_; walk_at "m_loc"))
  k_with "my eval Name" => (((k_here; (with_reducible rename Fr _ _ _ _ => kF); k_dflt (refine' ld kF ?k2 ?_; (case k2 => walk_at "m_loc"); k_whole); (try dsimp only)); (try walk_at "m_hF")))
  k_with "my truthy ref" => ((k_here; (with_reducible show wpAny _ _ (truthy (Value.ref _)) _ _ _); k_dflt (refine' kgr_truthy ?N ?hm ?hc ?hd ?hf ?_; (case N => k_asm); (case hm => k_mem); (case hc => exact rfl); (case hd => exact rfl); (case hf => ((try simp only [strValues_length, List.length_append, List.length_cons, List.length_nil]); omega)); k_whole; (simp only [snoc_isEmpty, List.isEmpty_nil, Bool.not_true, Bool.not_false]))))
  k_with "my call builtin:list.append" => ((k_here; (with_reducible show wpAny _ _ (call (Value.builtin _) [Value.ref _, _]) _ _ _); k_dflt (refine' my_append ?F ?N ?U ?z ?_; (case F => k_asm); (case N => k_asm); (case U => k_upd); (case z => (rw [PySem.sizeLine_eq]; (try simp only [strValues_length, List.length_append, List.length_cons, List.length_nil]); omega)); k_whole; intro _ _ _; (try k_sweep))))
  k_with "my call builtin:list.pop" => ((k_here; (with_reducible show wpAny _ _ (call (Value.builtin _) [Value.ref _]) _ _ _); k_dflt (refine' my_pop ?F ?N ?U ?z ?_; (case F => k_asm); (case N => k_asm); (case U => k_upd); (case z => (rw [PySem.sizeLine_eq]; (try simp only [strValues_length, List.length_append, List.length_cons, List.length_nil]); omega)); k_whole; intro _ _ _; (try k_sweep))))
  k_with "my subscriptTail Name UnaryOp ref int" => ((k_here; (with_reducible show wpAny _ _ (subscriptTail _ _ (Value.ref _) (Value.int _ _)) _ _ _); k_dflt (refine' my_last ?N ?hm ?_; (case N => k_asm); (case hm => k_mem); k_whole)))
  k_with "my call builtin:str.join" => ((k_here; (with_reducible show wpAny _ _ (call (Value.builtin _) [Value.str _ _, Value.ref _]) _ _ _); k_dflt (refine' join_list (News.isList ?N ?hm) ?S ?ok ?_; (case N => k_asm); (case hm => k_mem); (case S => with_reducible assumption); (case ok => ((simp only [show (Str.ofString "/").length = 1 from rfl, show (Str.ofString "").length = 0 from rfl]); omega)); k_whole; intro _ _)))
  k_with "my binaryOp Add str str" => ((k_here; (with_reducible show wpAny _ _ (binaryOp Operator.Add (Value.str _ _) (Value.str _ _)) _ _ _); k_dflt (refine' SBL.add (hsz := ?z) ?_; (case z => (rw [PySem.sizeLine_eq]; (try simp only [show (Str.ofString "/").length = 1 from rfl]); omega)); k_whole; intro _ _)))
  k_with "my truthy str" => ((k_here; (with_reducible show wpAny _ _ (PySem.truthy (Value.str _ _)) _ _ _); k_dflt (refine' KXt.truthy_pos (K := 16777216) ?za ?zb (Nat.le_refl _) ?_; (case za => omega); (case zb => omega); k_whole; intro _)))
  k_with "my eval Name" => (((k_here; (with_reducible rename NsObj _ _ => nX9); k_dflt (refine' ldVarK (NsObj.ns nX9 (News.get ?N ?hm)) ?hv ?_; (case N => k_asm); (case hm => k_mem); (case hv => with_reducible assumption); k_whole)); (try walk_at "m_hX")))
  k_with "my call builtin:str.join" => ((k_here; (with_reducible show wpAny _ _ (call (Value.builtin _) [Value.str _ _, Value.ref _]) _ _ _); k_dflt (refine' join_list ?hl ?S ?ok ?_; (case hl => exact Heap.IsList.at (by with_reducible assumption) (Fr.keep (by k_asm) _)); (case S => with_reducible assumption); (case ok => ((simp only [show (Str.ofString "/").length = 1 from rfl, show (Str.ofString "").length = 0 from rfl]); omega)); k_whole; intro _ _)))
  k_with "my eval Name" => (((k_here; (with_reducible rename Fr _ _ _ _ => kF); (with_reducible rename NsObj _ _ => nX9); k_dflt (refine' nameG_B kF ?k1 ?k2 ?k3 ?k4 ?k5 ?_ ?k6 ?k7 ?k8 ?k9 ?k10; (case k1 => k_asm); (case k2 => k_asm); (case k3 => k_is); (case k4 => boot_by_name); (case k5 => decide); (case k6 => exact rfl); (case k7 => exact rfl); (case k8 => exact rfl); (case k9 => exact rfl); (case k10 => decide); k_whole)); (try walk_at "m_hF"); (try walk_at "m_hX")))
  k_with "my binaryOp Add ref ref" => ((k_here; (with_reducible show wpAny _ _ (binaryOp Operator.Add (Value.ref _) (Value.ref _)) _ _ _); k_dflt (refine' add_lists ?F ?N (News.isList ?N1 ?m1) (News.isList ?N2 ?m2) ?_ ?z; (case F => k_asm); (case N => k_asm); (case N1 => k_asm); (case m1 => k_mem); (case N2 => k_asm); (case m2 => k_mem); (case z => (rw [PySem.sizeLine_eq]; (try simp only [List.length_append, List.length_cons, List.length_nil]); omega)); k_whole; intro _ _ _; (try k_sweep))))
  k_with "my call builtin:len" => ((k_here; (with_reducible show wpAny _ _ (call _ [Value.ref _]) _ _ _); k_dflt (refine' len_list ?hl ?hf ?_; (case hl => exact Heap.IsList.at (by with_reducible assumption) (Fr.keep (by k_asm) _)); (case hf => ((simp only [List.size_toArray]); omega)); k_whole; (try simp only [List.size_toArray]))))
  k_with "my call type:bytes" => ((k_here; (with_reducible show wpAny _ _ (call (Value.type _) [Value.ref _]) _ _ _); k_dflt (refine' bytes_K ?F ?N (News.isList ?N1 ?m1) ?i ?r ?z ?h ?_; (case F => k_asm); (case N => k_asm); (case N1 => k_asm); (case m1 => k_mem); (case i => with_reducible assumption); (case r => with_reducible assumption); (case z => (rw [PySem.sizeLine_eq]; omega)); (case h => exact rfl); k_whole; intro _ _ _ _ _ _; (try k_sweep))))
  k_with "my eval Name" => (k_here; dsimp only)
  k_with "my eval Constant int" => (k_here; dsimp only)
  k_with "my eval Constant str" => (k_here; dsimp only)
  k_with "my m_fold" => (((first | (with_reducible show wpAny _ _ (PySem.execs _ _) _ _ _) | (with_reducible show wpAny _ _ (PySem.exec _ _) _ _ _)); (first | ((fail_if_success (have := qk0)); k_fold; (rename PySem.Flow → PySem.Shared → Prop => qk0); (rename PySem.Value → PySem.Shared → Prop => ek0)) | ((fail_if_success (have := qk1)); k_fold; (rename PySem.Flow → PySem.Shared → Prop => qk1); (rename PySem.Value → PySem.Shared → Prop => ek1)) | ((fail_if_success (have := qk2)); k_fold; (rename PySem.Flow → PySem.Shared → Prop => qk2); (rename PySem.Value → PySem.Shared → Prop => ek2)) | ((fail_if_success (have := qk3)); k_fold; (rename PySem.Flow → PySem.Shared → Prop => qk3); (rename PySem.Value → PySem.Shared → Prop => ek3)) | ((fail_if_success (have := qk4)); k_fold; (rename PySem.Flow → PySem.Shared → Prop => qk4); (rename PySem.Value → PySem.Shared → Prop => ek4)) | ((fail_if_success (have := qk5)); k_fold; (rename PySem.Flow → PySem.Shared → Prop => qk5); (rename PySem.Value → PySem.Shared → Prop => ek5)) | ((fail_if_success (have := qk6)); k_fold; (rename PySem.Flow → PySem.Shared → Prop => qk6); (rename PySem.Value → PySem.Shared → Prop => ek6)) | ((fail_if_success (have := qk7)); k_fold; (rename PySem.Flow → PySem.Shared → Prop => qk7); (rename PySem.Value → PySem.Shared → Prop => ek7)) | ((fail_if_success (have := qk8)); k_fold; (rename PySem.Flow → PySem.Shared → Prop => qk8); (rename PySem.Value → PySem.Shared → Prop => ek8)) | ((fail_if_success (have := qk9)); k_fold; (rename PySem.Flow → PySem.Shared → Prop => qk9); (rename PySem.Value → PySem.Shared → Prop => ek9)) | ((fail_if_success (have := qk10)); k_fold; (rename PySem.Flow → PySem.Shared → Prop => qk10); (rename PySem.Value → PySem.Shared → Prop => ek10)) | ((fail_if_success (have := qk11)); k_fold; (rename PySem.Flow → PySem.Shared → Prop => qk11); (rename PySem.Value → PySem.Shared → Prop => ek11)) | ((fail_if_success (have := qk12)); k_fold; (rename PySem.Flow → PySem.Shared → Prop => qk12); (rename PySem.Value → PySem.Shared → Prop => ek12)) | ((fail_if_success (have := qk13)); k_fold; (rename PySem.Flow → PySem.Shared → Prop => qk13); (rename PySem.Value → PySem.Shared → Prop => ek13)) | ((fail_if_success (have := qk14)); k_fold; (rename PySem.Flow → PySem.Shared → Prop => qk14); (rename PySem.Value → PySem.Shared → Prop => ek14)) | ((fail_if_success (have := qk15)); k_fold; (rename PySem.Flow → PySem.Shared → Prop => qk15); (rename PySem.Value → PySem.Shared → Prop => ek15)))))
  k_with "my m_tidy" => (((try clear qk15); (try clear ek15)); ((try clear qk14); (try clear ek14)); ((try clear qk13); (try clear ek13)); ((try clear qk12); (try clear ek12)); ((try clear qk11); (try clear ek11)); ((try clear qk10); (try clear ek10)); ((try clear qk9); (try clear ek9)); ((try clear qk8); (try clear ek8)); ((try clear qk7); (try clear ek7)); ((try clear qk6); (try clear ek6)); ((try clear qk5); (try clear ek5)); ((try clear qk4); (try clear ek4)); ((try clear qk3); (try clear ek3)); ((try clear qk2); (try clear ek2)); ((try clear qk1); (try clear ek1)); ((try clear qk0); (try clear ek0)))
  k_with "my execs cons" => (first | (k_here; k_gentoks) | (k_here; walk_at "m_fold") | (k_here; walk_at "m_tidy"; (with_reducible refine wpAny_execs_cons ?_); (try dsimp only); (try walk_at "m_fold")))
  trivial


set_option maxHeartbeats 8000000 in
theorem tape_spec (w : World) (l : Addr) (ws : List (Int × Str)) (hok : ∀ o ∈ ws, WordOk o) (hln : ws.length ≤ 100) :
    Spec0 w 208 12 80 (fun h => ListAt h WordAt (.ref l) ws) [.ref l] (fun h v => ∃ t, v = .bytes (byteArr (tapeI ws)) t) := by
  intro p loose mean mg mb dp un gd cn cs a ccd cl outer A₀ base h₀ L m s Q E B F X T hk hd hu hpre hret
  walk_at "m_start"
  intro g L' h₁ hg F' N' B' X' T'
  (try dsimp only)
  replace F' : Fr g L' h₁ (fun y => List.lookup y [(Str.ofString "words", .ref l)]) := F'
  rw [hg] at hpre
  clear B F X T
  refine hide ?_
  intro Gq hGq
  obtain ⟨_, vs, hl, hls, hvs⟩ := hpre
  refine hGq ?_
  clear hGq Gq
  cases hl
  have hll := hvs.length
  have hvl : vs.length ≤ 100 := by omega
  (all_goals try walk_at "m_fold")
  k_steps
  rename_i oc hA _ hB F1 N1
  refine hide ?_
  intro Gq hGq
  obtain ⟨m0, F1, e1, e2⟩ : ∃ m0, Fr g L' hB m0 ∧ m0 (Str.ofString "words") = some (.ref l) ∧ m0 (Str.ofString "octets") = some (.ref oc) := ⟨_, F1, rfl, rfl⟩
  refine hGq ?_
  clear hGq Gq
  refine Stop.go (wpAny_For (ld F1 e1 ?_))
  have ho3 := octL_le ws hok
  refine iter_list (fun i m news => ∃ (oc : Addr) (ov : List Value) (n : Nat), news = [(oc, W.listOf ov.toArray n)] ∧ IntsAre ov ((ws.length : Int) :: octL (ws.take i)) ∧ m (Str.ofString "octets") = some (.ref oc)) rfl (hls.at (F1.keep _)) F1 N1 ⟨oc, _, _, rfl, ?_, e2⟩ ?_ ?_ ?_
  · rw [← hll]
    exact .cons _ _ .nil
  · intro i m₁ news₁ h _ Fi _
    exact hls.at (Fi.keep _)
  · rintro i v m₁ news₁ h tk I oI hv hq0 hI hne hLI Fi Ni
    ((try dsimp only); (try walk_at "m_fold"))
    refine hide ?_
    intro Gq hGq
    obtain ⟨oc', ov, n, rfl, hov, e3⟩ := hq0
    refine hGq ?_
    clear hGq Gq
    refine hide ?_
    intro Gq hGq
    obtain ⟨o, ho, a', t', u', rfl, ht⟩ := hvs.get hv
    refine hGq ?_
    clear hGq Gq
    have hto := IsTup.keeps ht Fi.keep
    have hoo := hok o (List.mem_of_getElem? ho)
    have hol : ov.length ≤ 25000 := by
      have h4 := hov.length
      have h5 := octL_le (ws.take i) fun x hx => hok x (List.mem_of_mem_take hx)
      have h6 : (ws.take i).length ≤ ws.length := by rw [List.length_take]; omega
      rw [h4, List.length_cons]
      omega
    have hwl := hoo.2.1
    replace Fi : Fr g L' h _ := Fi
    replace Ni : News g L' h _ := Ni
    k_lt hI
    (all_goals try walk_at "m_fold")
    k_steps
    rename_i hC hF F2 N2
    refine Stop.go (eval_comp (cl := []) rfl rfl (by decide) (ld F2 rfl ?_))
    refine led_hide N2 fun led hled N3 => map_hide F2 fun m2 hm2 F3 => ?_
    refine comp_str (m₀ := m2) (news₀ := led) (fun i outs news => news = led ∧ IntsAre outs ((o.2.cps.toList.take i).map fun c : Nat => (c : Int)))
      rfl (ascii_of hoo.2.2) (by rw [sizeLine_eq]; have : o.2.cps.size = o.2.length := rfl; omega) (by decide) rfl rfl F3 N3 ⟨rfl, by simp; exact .nil⟩ ?_ ?_
    · rintro i c uc outs news₁ h tk I2 oI2 D C oC mC nD hcc ⟨rfl, hJ⟩ hnC hmC hne2 hI2 hDC hID Fh Nh
      refine wpAny_tests_nil ?_
      rw [if_pos rfl]
      replace Fh : Fr g L' h _ := Fh
      replace Nh : News g L' h _ := Nh
      have hc8 : c < 128 := hoo.2.2 c (Array.mem_toList_iff.mpr (Array.mem_of_getElem? hcc))
      (all_goals try walk_at "m_fold")
      k_steps
      refine MakeEnd.go news₁ (by k_asm) (by k_asm) (by k_allIn) (fun p hp => List.Mem.tail _ (List.Mem.tail _ (List.Mem.tail _ hp))) (off3 hne2) ⟨rfl, ?_⟩
      have hci : o.2.cps.toList[i]? = some c := by rw [Array.getElem?_toList]; exact hcc
      rw [take_snoc hci, List.map_append]
      exact hJ.append (.cons _ _ .nil)
    · rintro outs news₁ h tk D nD ⟨rfl, hJ⟩ Fh Nh hne2 hlt
      have hjl : outs.length ≤ 200 := by
        rw [hJ.length, List.length_map, List.length_take]
        have : o.2.cps.toList.length = o.2.length := by simp [Str.length]
        omega
      rw [List.take_of_length_le (by simp)] at hJ
      rw [hled] at hlt
      k_lt hlt
      subst hled
      subst hm2
      replace Fh : Fr g L' h _ := Fh
      replace Nh : News g L' h _ := Nh
      clear F2 N2 F3 N3
      have hIh : I < h.objs.size := Heap.lt_size (Nh (I, oI) (by k_mem)).1
      (all_goals try walk_at "m_fold")
      k_steps
      rename_i hG F4 N4
      refine TurnEnd.goS [(_, W.listOf (_ : List Value).toArray 0)] F4 N4 (by k_allIn) (by intro p hp; rw [List.mem_singleton.mp hp]; exact Nat.ne_of_gt hIh) ⟨_, _, 0, rfl, ?_, rfl⟩
      have e7 : (ws.length : Int) :: octL (ws.take (i + 1)) = (((ws.length : Int) :: octL (ws.take i)) ++ [o.1, (o.2.length : Int)]) ++ o.2.cps.toList.map fun c : Nat => (c : Int) := by
        rw [octL_snoc ho]; simp
      rw [e7]
      exact (hov.append (.cons _ _ (.cons _ _ .nil))).append hJ
  · rintro m₁ news₁ h tk hq0 Fi Ni
    ((try dsimp only); (try walk_at "m_fold"))
    refine hide ?_
    intro Gq hGq
    obtain ⟨oc', ov, n, rfl, hov, e3⟩ := hq0
    refine hGq ?_
    clear hGq Gq
    rw [hll, List.take_of_length_le (Nat.le_refl _)] at hov
    change IntsAre ov (tapeI ws) at hov
    have hor : ∀ n ∈ tapeI ws, 0 ≤ n ∧ n < 256 := by
      intro n hn
      rcases List.mem_cons.mp hn with rfl | hn
      · omega
      · exact octL_in hok n hn
    have hol : ov.length ≤ 25000 := by
      rw [hov.length]
      show (octL ws).length + 1 ≤ _
      omega
    replace Fi : Fr g L' h _ := Fi
    replace Ni : News g L' h _ := Ni
    (all_goals try walk_at "m_fold")
    k_steps
    exact hret _ _ _ (fun b o e => Fr.keep (by assumption) b o (hg ▸ e)) ⟨_, rfl⟩

theorem fillit_MWords : PySem.Challenge.rw_in0069_01 = PySem.Challenge.rw_in0069_01 ∧ hd.heap_39 = hd.heap_39 := by
  w_top off
  k_fill
  exact ⟨rfl, rfl⟩

example : True := by
  k_with_none
  k_with "my m_enter" => ((refine' enter0 ?k1 ?k2 ?k3 ?k5 ?kA ?kF ?kK ?k6 ?k7 ?k8 ?k9 ?kB ?_ ?c2 ?c3 ?c4 ?c5; (case kA => exact rfl); (case kF => exact rfl); (case kK => assumption); (case k1 => k_asm); (case k2 => k_asm); (case k3 => k_asm); (case k5 => k_asm); (case k6 => k_is); (case k7 => k_is); (case k8 => ktr_room); (case k9 => exact BindsTo.of_eq rfl); (case c5 => decide); (case kB => exact locs rfl); (case c2 => exact rfl); (case c3 => exact rfl); (case c4 => exact rfl); k_whole))
  k_with "my call builtin:issubclass" => ((k_here; (with_reducible show wpAny _ _ (call _ [Value.type _, Value.ref _]) _ _ _); k_dflt (refine' call_iss ?k1 ?_; (case k1 => exact News.get (by k_asm) (by k_mem)))))
  k_with "my m_start" => ((refine wpAny_call ?_; k_dflt (walk_at "m_enter")))
  k_with "my m_use" => (((case kB => k_asm); (case kF => k_asm); (case kX => k_asm); (case kN => k_asm); (case kT => k_asm); (case kK => first | exact rfl | assumption); (case kD => ktr_room); (case kU => ktr_units)))
  k_with "my exec For Name Name cons nil" => ((k_here; refine Stop.out ?_))
  k_with "my m_loc" => (first
  | exact rfl
  | with_reducible assumption
  | (refine Eq.trans (if_neg (by decide)) ?_; walk_at "m_loc")
  | ((with_reducible rename (∀ y : PySem.Str, y ≠ _ → _ = _) => hm9); refine Eq.trans (hm9 _ (by decide)) ?_; walk_at "m_loc"))
  k_with "my eval Name" => (((k_here; (with_reducible rename Fr _ _ _ _ => kF); k_dflt (refine' ld kF ?k2 ?_; (case k2 => walk_at "m_loc"); k_whole); (try dsimp only)); (try walk_at "m_hF")))
  k_with "my truthy ref" => ((k_here; (with_reducible show wpAny _ _ (truthy (Value.ref _)) _ _ _); k_dflt (refine' kgr_truthy ?N ?hm ?hc ?hd ?hf ?_; (case N => k_asm); (case hm => k_mem); (case hc => exact rfl); (case hd => exact rfl); (case hf => ((try simp only [strValues_length, List.length_append, List.length_cons, List.length_nil]); omega)); k_whole; (simp only [snoc_isEmpty, List.isEmpty_nil, Bool.not_true, Bool.not_false]))))
  k_with "my call builtin:list.append" => ((k_here; (with_reducible show wpAny _ _ (call (Value.builtin _) [Value.ref _, _]) _ _ _); k_dflt (refine' my_append ?F ?N ?U ?z ?_; (case F => k_asm); (case N => k_asm); (case U => k_upd); (case z => (rw [PySem.sizeLine_eq]; (try simp only [strValues_length, List.length_append, List.length_cons, List.length_nil]); omega)); k_whole; intro _ _ _; (try k_sweep))))
  k_with "my call builtin:list.pop" => ((k_here; (with_reducible show wpAny _ _ (call (Value.builtin _) [Value.ref _]) _ _ _); k_dflt (refine' my_pop ?F ?N ?U ?z ?_; (case F => k_asm); (case N => k_asm); (case U => k_upd); (case z => (rw [PySem.sizeLine_eq]; (try simp only [strValues_length, List.length_append, List.length_cons, List.length_nil]); omega)); k_whole; intro _ _ _; (try k_sweep))))
  k_with "my subscriptTail Name UnaryOp ref int" => ((k_here; (with_reducible show wpAny _ _ (subscriptTail _ _ (Value.ref _) (Value.int _ _)) _ _ _); k_dflt (refine' my_last ?N ?hm ?_; (case N => k_asm); (case hm => k_mem); k_whole)))
  k_with "my call builtin:str.join" => ((k_here; (with_reducible show wpAny _ _ (call (Value.builtin _) [Value.str _ _, Value.ref _]) _ _ _); k_dflt (refine' join_list (News.isList ?N ?hm) ?S ?ok ?_; (case N => k_asm); (case hm => k_mem); (case S => with_reducible assumption); (case ok => ((simp only [show (Str.ofString "/").length = 1 from rfl, show (Str.ofString "").length = 0 from rfl]); omega)); k_whole; intro _ _)))
  k_with "my binaryOp Add str str" => ((k_here; (with_reducible show wpAny _ _ (binaryOp Operator.Add (Value.str _ _) (Value.str _ _)) _ _ _); k_dflt (refine' SBL.add (hsz := ?z) ?_; (case z => (rw [PySem.sizeLine_eq]; (try simp only [show (Str.ofString "/").length = 1 from rfl]); omega)); k_whole; intro _ _)))
  k_with "my truthy str" => ((k_here; (with_reducible show wpAny _ _ (PySem.truthy (Value.str _ _)) _ _ _); k_dflt (refine' KXt.truthy_pos (K := 16777216) ?za ?zb (Nat.le_refl _) ?_; (case za => omega); (case zb => omega); k_whole; intro _)))
  k_with "my eval Name" => (((k_here; (with_reducible rename NsObj _ _ => nX9); k_dflt (refine' ldVarK (NsObj.ns nX9 (News.get ?N ?hm)) ?hv ?_; (case N => k_asm); (case hm => k_mem); (case hv => with_reducible assumption); k_whole)); (try walk_at "m_hX")))
  k_with "my call builtin:str.join" => ((k_here; (with_reducible show wpAny _ _ (call (Value.builtin _) [Value.str _ _, Value.ref _]) _ _ _); k_dflt (refine' join_list ?hl ?S ?ok ?_; (case hl => exact Heap.IsList.at (by with_reducible assumption) (Fr.keep (by k_asm) _)); (case S => with_reducible assumption); (case ok => ((simp only [show (Str.ofString "/").length = 1 from rfl, show (Str.ofString "").length = 0 from rfl]); omega)); k_whole; intro _ _)))
  k_with "my eval Name" => (k_here; dsimp only)
  k_with "my eval Constant int" => (k_here; dsimp only)
  k_with "my eval Constant str" => (k_here; dsimp only)
  k_with "my m_fold" => (((first | (with_reducible show wpAny _ _ (PySem.execs _ _) _ _ _) | (with_reducible show wpAny _ _ (PySem.exec _ _) _ _ _)); (first | ((fail_if_success (have := qk0)); k_fold; (rename PySem.Flow → PySem.Shared → Prop => qk0); (rename PySem.Value → PySem.Shared → Prop => ek0)) | ((fail_if_success (have := qk1)); k_fold; (rename PySem.Flow → PySem.Shared → Prop => qk1); (rename PySem.Value → PySem.Shared → Prop => ek1)) | ((fail_if_success (have := qk2)); k_fold; (rename PySem.Flow → PySem.Shared → Prop => qk2); (rename PySem.Value → PySem.Shared → Prop => ek2)) | ((fail_if_success (have := qk3)); k_fold; (rename PySem.Flow → PySem.Shared → Prop => qk3); (rename PySem.Value → PySem.Shared → Prop => ek3)) | ((fail_if_success (have := qk4)); k_fold; (rename PySem.Flow → PySem.Shared → Prop => qk4); (rename PySem.Value → PySem.Shared → Prop => ek4)) | ((fail_if_success (have := qk5)); k_fold; (rename PySem.Flow → PySem.Shared → Prop => qk5); (rename PySem.Value → PySem.Shared → Prop => ek5)) | ((fail_if_success (have := qk6)); k_fold; (rename PySem.Flow → PySem.Shared → Prop => qk6); (rename PySem.Value → PySem.Shared → Prop => ek6)) | ((fail_if_success (have := qk7)); k_fold; (rename PySem.Flow → PySem.Shared → Prop => qk7); (rename PySem.Value → PySem.Shared → Prop => ek7)) | ((fail_if_success (have := qk8)); k_fold; (rename PySem.Flow → PySem.Shared → Prop => qk8); (rename PySem.Value → PySem.Shared → Prop => ek8)) | ((fail_if_success (have := qk9)); k_fold; (rename PySem.Flow → PySem.Shared → Prop => qk9); (rename PySem.Value → PySem.Shared → Prop => ek9)) | ((fail_if_success (have := qk10)); k_fold; (rename PySem.Flow → PySem.Shared → Prop => qk10); (rename PySem.Value → PySem.Shared → Prop => ek10)) | ((fail_if_success (have := qk11)); k_fold; (rename PySem.Flow → PySem.Shared → Prop => qk11); (rename PySem.Value → PySem.Shared → Prop => ek11)) | ((fail_if_success (have := qk12)); k_fold; (rename PySem.Flow → PySem.Shared → Prop => qk12); (rename PySem.Value → PySem.Shared → Prop => ek12)) | ((fail_if_success (have := qk13)); k_fold; (rename PySem.Flow → PySem.Shared → Prop => qk13); (rename PySem.Value → PySem.Shared → Prop => ek13)) | ((fail_if_success (have := qk14)); k_fold; (rename PySem.Flow → PySem.Shared → Prop => qk14); (rename PySem.Value → PySem.Shared → Prop => ek14)) | ((fail_if_success (have := qk15)); k_fold; (rename PySem.Flow → PySem.Shared → Prop => qk15); (rename PySem.Value → PySem.Shared → Prop => ek15)))))
  k_with "my m_tidy" => (((try clear qk15); (try clear ek15)); ((try clear qk14); (try clear ek14)); ((try clear qk13); (try clear ek13)); ((try clear qk12); (try clear ek12)); ((try clear qk11); (try clear ek11)); ((try clear qk10); (try clear ek10)); ((try clear qk9); (try clear ek9)); ((try clear qk8); (try clear ek8)); ((try clear qk7); (try clear ek7)); ((try clear qk6); (try clear ek6)); ((try clear qk5); (try clear ek5)); ((try clear qk4); (try clear ek4)); ((try clear qk3); (try clear ek3)); ((try clear qk2); (try clear ek2)); ((try clear qk1); (try clear ek1)); ((try clear qk0); (try clear ek0)))
  k_with "my execs cons" => (first | (k_here; k_gentoks) | (k_here; walk_at "m_fold") | (k_here; walk_at "m_tidy"; (with_reducible refine wpAny_execs_cons ?_); (try dsimp only); (try walk_at "m_fold")))
  trivial


theorem joinT (sep : Str) (l : List Str) : Txt.join sep l = Str.join sep l := beq_iff_eq.mp (join_plain_closes _ _)
set_option maxHeartbeats 8000000 in
theorem words_spec (w : World) (l : Addr) (os : List (Int × List Str)) (hos : ∀ o ∈ os, Short o) (hln : os.length ≤ 100) :
    Spec0 w 203 12 80 (fun h => ListAt h OrdAt (.ref l) os) [.ref l] (fun h v => ListAt h WordAt v (os.map wordOf)) := by
  intro p loose mean mg mb dp un gd cn cs a ccd cl outer A₀ base h₀ L m s Q E B F X T hk hd hu hpre hret
  walk_at "m_start"
  intro g L' h₁ hg F' N' B' X' T'
  (try dsimp only)
  replace F' : Fr g L' h₁ (fun y => List.lookup y [(Str.ofString "orders", .ref l)]) := F'
  rw [hg] at hpre
  clear B F X T
  obtain ⟨_, vs, hl, hls, hvs⟩ := hpre
  cases hl
  have hll := hvs.length
  refine wpAny_execs_cons (wpAny_Return_some (eval_comp (cl := []) rfl rfl (by decide) (ld F' rfl ?_)))
  have hlg : h₁.IsList l vs.toArray := hls.at (F'.keep _)
  obtain ⟨ob, hob, _⟩ := id hls
  refine comp_list (m₀ := fun y => List.lookup y [(Str.ofString "orders", .ref l)]) (news₀ := []) (fun i outs news => All2 (WordIn news) outs ((os.take i).map wordOf))
    (fun i v m' => ∃ o t r rv, os[i]? = some o ∧ g.IsList r rv.toArray ∧ StrsAre rv o.2 ∧ m' (Str.ofString "kind") = some (.int o.1 t) ∧ m' (Str.ofString "row") = some (.ref r)) (fun _ _ _ _ => False)
    rfl (by rw [sizeLine_eq]; omega) (by decide) rfl hlg F' N' .nil ⟨ob, fun i outs news h _ Fh _ => Fh.keep _ _ hob⟩ ?_ (fun _ _ _ _ x => x.elim) ?_ ?_
  · intro i v C s₁ m₁ Q' E' hv hC hC0 Fs hn k
    obtain ⟨o, ho, a', t', r', rv, rfl, ht, hr, hst⟩ := hvs.get hv
    exact asg_pair rfl rfl rfl rfl (by decide) hn (IsTup.keeps ht Fs.keep) fun h' tk' m' hx hn' e1 e2 => k h' tk' m' hx hn' ⟨o, t', r', rv, ho, hr, hst, e1, e2⟩
  · rintro i v outs news₁ h tk I oI D C oC mC nD hi hv hJ hnC ⟨o, t', r', rv, ho, hr, hst, e1, e2⟩ hne hI hDC hID Fh Nh
    refine wpAny_tests_nil ?_
    rw [if_pos rfl]
    have hso := hos o (List.mem_of_getElem? ho)
    unfold Short at hso
    obtain ⟨hs1, hs2⟩ := hso
    replace Fh : Fr g L' h _ := Fh
    replace Nh : News g L' h _ := Nh
    (all_goals try walk_at "m_fold")
    k_steps
    all_goals
      refine MakeEnd.go ((_, tupObj #[_, _]) :: news₁) (by k_asm) (by k_asm) (by k_allIn) (List.forall_mem_cons.mpr ⟨by k_mem, by intro p hp; k_ownIn⟩) (off3_cons (by omega) (by omega) (by omega) hne) ?_
      rw [take_snoc ho, List.map_append]
      show All2 _ _ (_ ++ [wordOf o])
      first
        | (have hw : wordOf o = (o.1, Txt.join (Str.ofString "/") o.2) := by (unfold wordOf; rw [if_pos (by assumption), joinT])
           rw [hw]
           exact (hJ.mono fun _ _ x => WordIn.mono x fun _ hp => List.Mem.tail _ hp).snoc ⟨_, _, _, rfl, List.Mem.head _⟩)
        | (have hw : wordOf o = (o.1, Txt.join (Str.ofString "") o.2) := by (unfold wordOf; rw [if_neg (by assumption), joinT])
           rw [hw]
           exact (hJ.mono fun _ _ x => WordIn.mono x fun _ hp => List.Mem.tail _ hp).snoc ⟨_, _, _, rfl, List.Mem.head _⟩)
  · intro outs news₁ h tk D nD hJ Fh Nh hne hlt
    rw [← hg] at Fh
    have Nt : News g (envOf (Str.ofString "_law_words") _ L' 203 (Value.ref 202)).locals h news₁ := fun p hp => Nh p (List.Mem.tail _ hp)
    refine hret _ _ _ (Fr.keep Fh) ⟨D, outs, rfl, News.isList Nh (List.Mem.head _), ?_⟩
    rw [List.take_of_length_le (by omega)] at hJ
    exact hJ.mono fun _ _ x => WordIn.at x Nt

def SeqO (o : Obj) : Prop := ∃ vs n, o.data = .seq vs n
theorem pin {g h : Heap} {L : Addr} {m : Str → Option Value} (F : Fr g L h m) (as : List (Addr × Obj)) (hin : ∀ p ∈ as, h.get? p.1 = some p.2 ∧ SeqO p.2) :
    ∃ own, News g L h own ∧ (∀ p ∈ own, SeqO p.2) ∧ ∀ h' m', Fr g L h' m' → News g L h' own → ∀ p ∈ as, h'.get? p.1 = some p.2 := by
  refine ⟨as.filter fun p => (g.get? p.1).isNone, fun p hp => ?_, fun p hp => (hin p (List.mem_filter.mp hp).1).2, fun h' m' F' N' p hp => ?_⟩
  · obtain ⟨h1, h2⟩ := List.mem_filter.mp hp
    obtain ⟨h3, vs, n, h4⟩ := hin p h1
    refine ⟨h3, fun q => ?_, Option.isNone_iff_eq_none.mp h2⟩
    obtain ⟨x, es, ep, e, hd, -⟩ := F.ns
    rw [q, e] at h3
    cases h3
    rw [h4] at hd
    cases hd
  · cases e : g.get? p.1 with
    | none => exact (N' p (List.mem_filter.mpr ⟨hp, by rw [e]; rfl⟩)).1
    | some o =>
      have h1 := F.keep _ _ e
      rw [(hin p hp).1] at h1
      cases h1
      exact F'.keep _ _ e
theorem ListAt.objs {α : Type} {h : Heap} {R : Heap → Value → α → Prop} {v : Value} {xs : List α}
    (hR : ∀ v x, R h v x → ∃ as : List (Addr × Obj), (∀ p ∈ as, h.get? p.1 = some p.2 ∧ SeqO p.2) ∧ ∀ h' : Heap, (∀ p ∈ as, h'.get? p.1 = some p.2) → R h' v x) (x : ListAt h R v xs) :
    ∃ as : List (Addr × Obj), (∀ p ∈ as, h.get? p.1 = some p.2 ∧ SeqO p.2) ∧ ∀ h' : Heap, (∀ p ∈ as, h'.get? p.1 = some p.2) → ListAt h' R v xs := by
  obtain ⟨l, vs, rfl, ⟨o, ho, hc, n, hd⟩, hvs⟩ := x
  have key : ∃ as : List (Addr × Obj), (∀ p ∈ as, h.get? p.1 = some p.2 ∧ SeqO p.2) ∧ ∀ h' : Heap, (∀ p ∈ as, h'.get? p.1 = some p.2) → All2 (R h') vs xs := by
    clear ho hd
    induction hvs with
    | nil => exact ⟨[], (fun _ hp => nomatch hp), fun _ _ => .nil⟩
    | cons x _ ih =>
      obtain ⟨as, h1, h2⟩ := ih
      obtain ⟨bs, h3, h4⟩ := hR _ _ x
      refine ⟨bs ++ as, fun p hp => ?_, fun h' hk => .cons (h4 h' fun p hp => hk p (List.mem_append_left _ hp)) (h2 h' fun p hp => hk p (List.mem_append_right _ hp))⟩
      rcases List.mem_append.mp hp with hp | hp
      · exact h3 p hp
      · exact h1 p hp
  obtain ⟨as, h1, h2⟩ := key
  refine ⟨(l, o) :: as, fun p hp => ?_, fun h' hk => ⟨l, vs, rfl, ⟨o, hk _ (.head _), hc, n, hd⟩, h2 h' fun p hp => hk p (.tail _ hp)⟩⟩
  rcases List.mem_cons.mp hp with rfl | hp
  · exact ⟨ho, _, _, hd⟩
  · exact h1 p hp
theorem OrdAt.objs {h : Heap} {v : Value} {o : Int × List Str} (x : OrdAt h v o) : ∃ as : List (Addr × Obj), (∀ p ∈ as, h.get? p.1 = some p.2 ∧ SeqO p.2) ∧ ∀ h' : Heap, (∀ p ∈ as, h'.get? p.1 = some p.2) → OrdAt h' v o := by
  obtain ⟨a, t, r, rv, e, ⟨oa, h1, h2, n, h3⟩, ⟨ob, h4, h5, k, h6⟩, h7⟩ := x
  refine ⟨[(a, oa), (r, ob)], fun p hp => ?_, fun h' hk => ⟨a, t, r, rv, e, ⟨oa, hk _ (.head _), h2, n, h3⟩, ⟨ob, hk _ (.tail _ (.head _)), h5, k, h6⟩, h7⟩⟩
  rcases List.mem_cons.mp hp with rfl | hp
  · exact ⟨h1, _, _, h3⟩
  · rw [List.mem_singleton.mp hp]; exact ⟨h4, _, _, h6⟩
theorem WordAt.objs {h : Heap} {v : Value} {o : Int × Str} (x : WordAt h v o) : ∃ as : List (Addr × Obj), (∀ p ∈ as, h.get? p.1 = some p.2 ∧ SeqO p.2) ∧ ∀ h' : Heap, (∀ p ∈ as, h'.get? p.1 = some p.2) → WordAt h' v o := by
  obtain ⟨a, t, u, e, ⟨oa, h1, h2, n, h3⟩⟩ := x
  refine ⟨[(a, oa)], fun p hp => ?_, fun h' hk => ⟨a, t, u, e, ⟨oa, hk _ (.head _), h2, n, h3⟩⟩⟩
  rw [List.mem_singleton.mp hp]; exact ⟨h1, _, _, h3⟩
/-- a list that stands, laid on the ledger -/
theorem pin_list {α : Type} {R : Heap → Value → α → Prop} {g h : Heap} {L : Addr} {m : Str → Option Value} {v : Value} {xs : List α} (F : Fr g L h m)
    (hR : ∀ v x, R h v x → ∃ as : List (Addr × Obj), (∀ p ∈ as, h.get? p.1 = some p.2 ∧ SeqO p.2) ∧ ∀ h' : Heap, (∀ p ∈ as, h'.get? p.1 = some p.2) → R h' v x) (x : ListAt h R v xs) :
    ∃ own, News g L h own ∧ (∀ p ∈ own, SeqO p.2) ∧ ∀ h' m', Fr g L h' m' → News g L h' own → ListAt h' R v xs := by
  obtain ⟨as, h1, h2⟩ := x.objs hR
  obtain ⟨own, h3, h4, h5⟩ := pin F as h1
  exact ⟨own, h3, h4, fun h' m' F' N' => h2 h' (h5 h' m' F' N')⟩
theorem news_app {g h : Heap} {L : Addr} {a b : List (Addr × Obj)} (A : News g L h a) (B : News g L h b) : News g L h (a ++ b) := fun p hp => by
  rcases List.mem_append.mp hp with hp | hp
  · exact A p hp
  · exact B p hp

section
open PySem PySem.W PySem.Calls PyProof.Rows PyProof.V PySem.Spec PySem.SeqAt
/-- data that is like itself and not deep -/
def Plain1 (d : PyData) : Prop := d.canLay0 = true ∧ d.depth ≤ 1 ∧ noMix d d = true ∧ PySem.Spec.same d d = true
theorem plain_all : ∀ {ds : List PyData}, (∀ d ∈ ds, Plain1 d) → PyData.canLayAll0 ds = true ∧ PyData.depthAll ds ≤ 1 ∧ noMixAll ds ds = true ∧ PySem.Spec.sameAll ds ds = true
  | [], _ => ⟨by simp [PyData.canLayAll0], by simp [PyData.depthAll], by simp [noMixAll], by simp [PySem.Spec.sameAll]⟩
  | d :: ds, h => by
    obtain ⟨a, b, c, e⟩ := plain_all fun x hx => h x (.tail _ hx)
    obtain ⟨a', b', c', e'⟩ := h d (.head _)
    refine ⟨by simp [PyData.canLayAll0, a, a'], ?_, by simp [noMixAll, c, c'], by simp [PySem.Spec.sameAll, e, e']⟩
    simp only [PyData.depthAll]; omega
theorem plain_list {ds : List PyData} (h : ∀ d ∈ ds, Plain1 d) : shaped (.list ds) = true ∧ noMix (.list ds) (.list ds) = true ∧ PySem.Spec.same (.list ds) (.list ds) = true := by
  obtain ⟨a, b, c, e⟩ := plain_all h
  refine ⟨?_, by simp only [noMix]; exact c, by simp only [PySem.Spec.same]; exact e⟩
  unfold shaped
  rw [Bool.and_eq_true_iff]
  refine ⟨by simp only [PyData.canLay0]; exact a, ?_⟩
  simp only [PyData.depth]
  exact decide_eq_true (by omega)
theorem list_reads {α : Type} {h : Heap} {R : Heap → Value → α → Prop} {v : Value} {xs : List α} {f : α → PyData} (hR : ∀ v x, R h v x → ∃ as, Reads h v (f x) as) (x : ListAt h R v xs) : ∃ as, Reads h v (.list (xs.map f)) as := by
  obtain ⟨l, vs, rfl, ⟨o, ho, hc, n, hd⟩, hvs⟩ := x
  have key : ∃ as, ReadsAll h vs (xs.map f) as := by
    clear ho hd
    induction hvs with
    | nil => exact ⟨_, .nil⟩
    | cons x _ ih =>
      obtain ⟨as, h1⟩ := hR _ _ x
      obtain ⟨bs, h2⟩ := ih
      exact ⟨_, .cons h1 h2⟩
  obtain ⟨as, h1⟩ := key
  exact ⟨_, Reads.list ho hc hd (by simpa using h1)⟩
noncomputable def wordD (o : Int × Str) : PyData := .tuple [.int o.1, .str o.2]
noncomputable def tellD : Tell → PyData
  | .path x => .str x
  | .yes b => .bool b
theorem word_reads {h : Heap} (v : Value) (o : Int × Str) (x : WordAt h v o) : ∃ as, Reads h v (wordD o) as := by
  obtain ⟨a, t, u, rfl, ⟨oa, h1, h2, n, h3⟩⟩ := x
  exact ⟨_, Reads.tuple h1 h2 h3 (.cons (.int _ _) (.cons (.str _ _) .nil))⟩
theorem tell_reads {h : Heap} (v : Value) (o : Tell) (x : TellIs h v o) : ∃ as, Reads h v (tellD o) as := by
  cases o with
  | path s => obtain ⟨t, rfl⟩ := x; exact ⟨_, .str _ _⟩
  | yes b => cases (x : v = .bool b); exact ⟨_, .bool _⟩
theorem word_plain {o : Int × Str} (h : PyData.strOk o.2 = true) : Plain1 (wordD o) := by
  refine ⟨by simp [wordD, PyData.canLay0, PyData.canLayAll0, h], by simp [wordD, PyData.depth, PyData.depthAll], by simp [wordD, noMix, noMixAll], by simp [wordD, PySem.Spec.same, PySem.Spec.sameAll]⟩
def tellOk : Tell → Prop
  | .path x => PyData.strOk x = true
  | .yes _ => True
theorem tell_plain {o : Tell} (h : tellOk o) : Plain1 (tellD o) := by
  cases o with
  | path x => exact ⟨by simp only [tellD, PyData.canLay0]; exact h, by simp [tellD, PyData.depth], by simp [tellD, noMix], by simp [tellD, PySem.Spec.same]⟩
  | yes b => exact ⟨by simp [tellD, PyData.canLay0], by simp [tellD, PyData.depth], by simp [tellD, noMix], by simp [tellD, PySem.Spec.same]⟩
section
variable {prog : Program} {w : World} {A : Around} {E : Value → Shared → Prop} {s : Shared} {a b : Value}
theorem words_ne {ws : List (Int × Str)} {Q : Value → Shared → Prop} (h1 : ListAt s.heap WordAt a ws) (h2 : ListAt s.heap WordAt b ws) (hok : ∀ o ∈ ws, PyData.strOk o.2 = true) (hu : A.units + 64 < cLine) (h : Q (.bool false) s) :
    wpAny (model prog w) A (compareOp .NotEq a b) Q E s := by
  obtain ⟨as, r1⟩ := list_reads word_reads h1
  obtain ⟨bs, r2⟩ := list_reads word_reads h2
  obtain ⟨p1, p2, p3⟩ := plain_list (ds := ws.map wordD) fun d hd => by
    obtain ⟨o, ho, rfl⟩ := List.mem_map.mp hd
    exact word_plain (hok o ho)
  refine ne_dataH_same r1 r2 p1 p1 hu p2 ?_
  rw [p3]; exact h
theorem tells_eq {ts : List Tell} {Q : Value → Shared → Prop} (h1 : ListAt s.heap TellIs a ts) (h2 : ListAt s.heap TellIs b ts) (hok : ∀ o ∈ ts, tellOk o) (hu : A.units + 64 < cLine) (h : Q (.bool true) s) :
    wpAny (model prog w) A (compareOp .Eq a b) Q E s := by
  obtain ⟨as, r1⟩ := list_reads tell_reads h1
  obtain ⟨bs, r2⟩ := list_reads tell_reads h2
  obtain ⟨p1, p2, p3⟩ := plain_list (ds := ts.map tellD) fun d hd => by
    obtain ⟨o, ho, rfl⟩ := List.mem_map.mp hd
    exact tell_plain (hok o ho)
  refine eq_dataH_same r1 r2 p1 p1 hu p2 ?_
  rw [p3]; exact h
theorem trues_ne {n : Nat} {Q : Value → Shared → Prop} (h1 : ListAt s.heap TellIs a (List.replicate n (.yes true))) (h2 : ListAt s.heap TellIs b (List.replicate n (.yes true))) (hu : A.units + 64 < cLine) (h : Q (.bool false) s) :
    wpAny (model prog w) A (compareOp .NotEq a b) Q E s := by
  obtain ⟨as, r1⟩ := list_reads tell_reads h1
  obtain ⟨bs, r2⟩ := list_reads tell_reads h2
  obtain ⟨p1, p2, p3⟩ := plain_list (ds := (List.replicate n (Tell.yes true)).map tellD) fun d hd => by
    obtain ⟨o, ho, rfl⟩ := List.mem_map.mp hd
    rw [List.eq_of_mem_replicate ho]
    exact tell_plain True.intro
  refine ne_dataH_same r1 r2 p1 p1 hu p2 ?_
  rw [p3]; exact h
end
end

theorem off_seq {g h : Heap} {L : Addr} {own news : List (Addr × Obj)} (NO : News g L h own) (hs : ∀ p ∈ own, SeqO p.2) (N : News g L h news) {b : Addr} {o : Obj} (hb : (b, o) ∈ news) (hn : ¬ SeqO o) : ∀ p ∈ own, p.1 ≠ b := fun p hp q => by
  have h1 := (NO p hp).1
  have h2 := (N _ hb).1
  dsimp only at h2
  rw [q, h2] at h1
  cases h1
  exact hn (hs p hp)
theorem tab_not_seq (ps : Array Value) : ¬ SeqO (tabObj ps) := fun ⟨_, _, h⟩ => by cases h
theorem cell_not_seq {o : Obj} {c : Option Value} (h : o.data = .cell c) : ¬ SeqO o := fun ⟨_, _, h2⟩ => by rw [h] at h2; cases h2
theorem code_not_seq {q : Str} {o : Obj} (h : CodeO q o) : ¬ SeqO o := fun ⟨_, _, h2⟩ => by obtain ⟨vs, t, h1, -⟩ := h; rw [h1] at h2; cases h2
/-- what a call keeps that may change the objects at own alone -/
theorem kept_fr {g h h' : Heap} {L : Addr} {m : Str → Option Value} {own : List (Addr × Obj)} (F : Fr g L h m) (N : News g L h own) (hk : ∀ b o, b ∉ own.map (·.1) → h.get? b = some o → h'.get? b = some o) : Fr g L h' m := by
  refine ⟨F.ns.at' fun o e => hk _ o (fun q => ?_) e, fun b o e => hk b o (fun q => ?_) (F.keep b o e), F.above⟩
  · obtain ⟨p, hp, rfl⟩ := List.mem_map.mp q
    exact (N p hp).2.1 rfl
  · obtain ⟨p, hp, rfl⟩ := List.mem_map.mp q
    rw [(N p hp).2.2] at e; cases e
theorem kept_news {g h h' : Heap} {L : Addr} {own news : List (Addr × Obj)} (N : News g L h news) (hk : ∀ b o, b ∉ own.map (·.1) → h.get? b = some o → h'.get? b = some o) (hne : ∀ p ∈ news, p.1 ∉ own.map (·.1)) : News g L h' news :=
  fun p hp => ⟨hk _ _ (hne p hp) (N p hp).1, (N p hp).2⟩
theorem sum_le {n : Nat} : ∀ {l : List Str}, (∀ p ∈ l, p.length ≤ n) → (l.map (·.length)).sum ≤ l.length * n
  | [], _ => Nat.zero_le _
  | p :: l, h => by
    have h1 := sum_le (l := l) fun q hq => h q (.tail _ hq)
    have h2 := h p (.head _)
    rw [List.map_cons, List.sum_cons, List.length_cons, Nat.succ_mul]
    omega
/-- every sign is below 128 -/
def Low (x : Str) : Prop := ∀ c ∈ x.cps.toList, c < 128
theorem Low.app {x y : Str} (hx : Low x) (hy : Low y) : Low (x ++ y) := by
  intro c hc
  have e : (x ++ y).cps.toList = x.cps.toList ++ y.cps.toList := by
    show (x.cps ++ y.cps).toList = _
    rw [Array.toList_append]
  rw [e] at hc
  exact (List.mem_append.mp hc).elim (hx c) (hy c)
theorem Low.join {sep : Str} (hs : Low sep) : ∀ {l : List Str}, (∀ p ∈ l, Low p) → Low (Str.join sep l)
  | [], _ => fun c hc => by cases hc
  | [p], h => h p (.head _)
  | p :: q :: l, h => ((h p (.head _)).app hs).app (Low.join hs (l := q :: l) fun r hr => h r (.tail _ hr))
theorem low_of {x : Str} (h : x.cps.toList.all (fun c => decide (c < 128)) = true) : Low x := fun c hc => of_decide_eq_true (List.all_eq_true.mp h c hc)
theorem low_part {p : Str} (h : partOk p) : Low p := by rcases h with rfl | rfl | rfl | rfl | rfl | rfl <;> exact low_of (by decide)
theorem low_piece {p : Str} (h : pieceOk p) : Low p := by rcases h with rfl | rfl | rfl | rfl | rfl | rfl <;> exact low_of (by decide)
theorem low_comp {p : Str} (h : compOk p) : Low p := by rcases h with rfl | rfl | rfl <;> exact low_of (by decide)
theorem low_str {x : Str} (h : Low x) : PyData.strOk x = true := by
  unfold PyData.strOk
  rw [Array.all_eq_true]
  intro i hi
  have := h x.cps[i] (by simp)
  exact decide_eq_true (by omega)
theorem good_short {o : Int × List Str} (h : ordGood o) : Short o := by
  unfold Short
  rcases h.1 with ⟨-, -, h3, h4⟩ | ⟨-, -, h3, h4⟩
  · have := sum_le fun p hp => part_len (h4 p hp)
    omega
  · have := sum_le fun p hp => piece_len (h4 p hp)
    omega
theorem good_word {o : Int × List Str} (h : ordGood o) : WordOk (wordOf o) := by
  obtain ⟨k, row⟩ := o
  rcases h.1 with ⟨h1, -, h3, h4⟩ | ⟨h1, -, h3, h4⟩
  · dsimp only at h1 h3 h4
    subst h1
    have e : wordOf (0, row) = (0, Str.join (Str.ofString "/") row) := by unfold wordOf; rw [if_pos rfl]
    rw [e]
    refine ⟨.inl rfl, ?_, Low.join (low_of (by decide)) fun p hp => low_part (h4 p hp)⟩
    have h5 := sum_le fun p hp => part_len (h4 p hp)
    have h6 := StrLaws.join_length_le (Str.ofString "/") row
    rw [show (Str.ofString "/").length = 1 from rfl] at h6
    show (Str.join (Str.ofString "/") row).length ≤ 200
    omega
  · dsimp only at h1 h3 h4
    subst h1
    have e : wordOf (1, row) = (1, Str.join (Str.ofString "") row) := by
      unfold wordOf
      rw [if_neg (show ¬ ((1, row) : Int × List Str).1 = 0 from (by decide : ¬ (1 : Int) = 0))]
    rw [e]
    refine ⟨.inr rfl, ?_, Low.join (low_of (by decide)) fun p hp => low_piece (h4 p hp)⟩
    have h5 := join0_le (n := 4) row fun p hp => piece_len (h4 p hp)
    show (Str.join (Str.ofString "") row).length ≤ 200
    omega
noncomputable def octs (o : Int × Str) : List Int := o.1 :: (o.2.length : Int) :: o.2.cps.toList.map fun c : Nat => (c : Int)
theorem octL_cons (o : Int × Str) (ws : List (Int × Str)) : octL (o :: ws) = octs o ++ octL ws := by
  unfold octL octs
  rw [List.flatMap_cons]
theorem octL_app (a b : List (Int × Str)) : octL (a ++ b) = octL a ++ octL b := by
  unfold octL
  rw [List.flatMap_append]
theorem latin_of (x : Str) : latin (x.cps.toList.map fun c : Nat => (c : Int)) = x := by
  unfold latin
  rw [List.map_map]
  have e : (Int.toNat ∘ fun c : Nat => (c : Int)) = id := by funext c; exact Int.toNat_natCast c
  rw [e, List.map_id, Array.toArray_toList]
theorem parse1_octs (o : Int × Str) (r : List Int) : parse1 (octs o ++ r) = some (o, r) := by
  obtain ⟨k, x⟩ := o
  have hl : (x.cps.toList.map fun c : Nat => (c : Int)).length = x.length := by rw [List.length_map, Array.length_toList]; rfl
  have hp : ∀ A : List Int, parse1 (k :: (x.length : Int) :: (A ++ r)) = if ((x.length : Int)).toNat ≤ (A ++ r).length then some ((k, latin ((A ++ r).take ((x.length : Int)).toNat)), (A ++ r).drop ((x.length : Int)).toNat) else none := fun _ => rfl
  show parse1 (k :: (x.length : Int) :: ((x.cps.toList.map fun c : Nat => (c : Int)) ++ r)) = _
  rw [hp, Int.toNat_natCast, if_pos (by rw [List.length_append]; omega), List.take_left' hl, List.drop_left' hl, latin_of]
theorem parseI_octL : ∀ (n : Nat) (ws : List (Int × Str)) (t : List Int), n ≤ ws.length → parseI n (octL ws ++ t) = some (ws.take n, octL (ws.drop n) ++ t)
  | 0, ws, t, _ => by rw [List.take_zero, List.drop_zero]; rfl
  | n + 1, ws, t, h => by
    show (parseI n (octL ws ++ t)).bind _ = _
    rw [parseI_octL n ws t (by omega)]
    have hn : n < ws.length := h
    have e : ws.drop n = ws[n] :: ws.drop (n + 1) := List.drop_eq_getElem_cons hn
    show (parse1 (octL (ws.drop n) ++ t)).map _ = _
    rw [e, octL_cons, List.append_assoc, parse1_octs]
    have e2 : ws.take (n + 1) = ws.take n ++ [ws[n]] := take_snoc (List.getElem?_eq_getElem hn)
    rw [e2]
    rfl
theorem parse_tape {ws : List (Int × Str)} (_ : ∀ o ∈ ws, WordOk o) : parseAll (tapeI ws) = some ws := by
  show (parseI ((ws.length : Int)).toNat (octL ws)).map _ = _
  have h := parseI_octL ws.length ws [] (Nat.le_refl _)
  rw [List.append_nil, List.append_nil, List.take_of_length_le (Nat.le_refl _)] at h
  rw [Int.toNat_natCast, h]
  rfl
theorem parse1_more {l r t : List Int} {o : Int × Str} (h : parse1 l = some (o, r)) : parse1 (l ++ t) = some (o, r ++ t) := by
  unfold parse1 at h
  split at h
  · rename_i k n r0
    split at h
    · rename_i hn
      cases h
      have hp : parse1 (k :: n :: (r0 ++ t)) = if n.toNat ≤ (r0 ++ t).length then some ((k, latin ((r0 ++ t).take n.toNat)), (r0 ++ t).drop n.toNat) else none := rfl
      show parse1 (k :: n :: (r0 ++ t)) = _
      rw [hp, if_pos (by rw [List.length_append]; omega), List.take_append_of_le_length hn, List.drop_append_of_le_length hn]
    · cases h
  · cases h
theorem parseI_more : ∀ {n : Nat} {l r t : List Int} {ws : List (Int × Str)}, parseI n l = some (ws, r) → parseI n (l ++ t) = some (ws, r ++ t)
  | 0, _, _, _, _, h => by cases h; rfl
  | n + 1, l, r, t, ws, h => by
    obtain ⟨⟨ws1, r1⟩, h1, h2⟩ := Option.bind_eq_some_iff.mp h
    obtain ⟨⟨o, r2⟩, h3, h4⟩ := Option.map_eq_some_iff.mp h2
    cases h4
    show (parseI n (l ++ t)).bind _ = _
    rw [parseI_more (t := t) h1]
    show (parse1 (r1 ++ t)).map _ = _
    rw [parse1_more h3]
    rfl
theorem parse_cut {ws : List (Int × Str)} (_ : ∀ o ∈ ws, WordOk o) {cut : Nat} (hc : cut < (tapeI ws).length) : parseAll ((tapeI ws).take cut) = none := by
  cases cut with
  | zero => rfl
  | succ c =>
    show (parseI ((ws.length : Int)).toNat ((octL ws).take c)).map _ = none
    rw [Int.toNat_natCast]
    cases e : parseI ws.length ((octL ws).take c) with
    | none => rfl
    | some p =>
      obtain ⟨ws', r⟩ := p
      have h1 := parseI_more (t := (octL ws).drop c) e
      rw [List.take_append_drop] at h1
      have h2 := parseI_octL ws.length ws [] (Nat.le_refl _)
      rw [List.append_nil, List.append_nil, List.drop_eq_nil_of_le (Nat.le_refl _), h1] at h2
      have h3 : r ++ (octL ws).drop c = octL [] := (Prod.mk.inj (Option.some.inj h2)).2
      have h4 : (r ++ (octL ws).drop c).length = 0 := by rw [h3]; rfl
      rw [List.length_append, List.length_drop] at h4
      have h5 : c + 1 < (octL ws).length + 1 := hc
      omega
theorem octL_ge (ws : List (Int × Str)) : 2 * ws.length ≤ (octL ws).length := by
  induction ws with
  | nil => exact Nat.zero_le _
  | cons o r ih =>
    rw [octL_cons, List.length_append, List.length_cons]
    have : 2 ≤ (octs o).length := by unfold octs; rw [List.length_cons, List.length_cons]; omega
    omega
theorem tape_len {ws : List (Int × Str)} (h : ∀ o ∈ ws, WordOk o) (h1 : 4 ≤ ws.length) (h2 : ws.length ≤ 11) : 9 ≤ (tapeI ws).length ∧ (tapeI ws).length ≤ 25000 := by
  have h3 := octL_le ws h
  have h4 := octL_ge ws
  have h5 : (tapeI ws).length = (octL ws).length + 1 := rfl
  omega
theorem tape_ints {ws : List (Int × Str)} (h : ∀ o ∈ ws, WordOk o) (h2 : ws.length ≤ 11) : KBw.bInts (byteArr (tapeI ws)) = tapeI ws := by
  refine KBa.ints_make ?_
  intro n hn
  rcases List.mem_cons.mp hn with rfl | hn
  · omega
  · exact octL_in h n hn
theorem word_str {o : Int × Str} (h : WordOk o) : PyData.strOk o.2 = true := low_str h.2.2
theorem path_low {here : List Str} (h : hereOk here) : Low (pathOf here) := by
  unfold pathOf
  exact Low.app (low_of (by decide)) (Low.join (low_of (by decide)) fun c hc => low_comp (h c hc))
theorem walk_ok {st : List Str × List Tell} {o : Int × List Str} (h : hereOk st.1 ∧ ∀ t ∈ st.2, tellOk t) (ho : ordGood o) : hereOk (walkStep st o).1 ∧ ∀ t ∈ (walkStep st o).2, tellOk t := by
  unfold walkStep
  split
  · rename_i hk
    have hp : ∀ p ∈ o.2, partOk p := by
      rcases ho.1 with ⟨-, -, -, h4⟩ | ⟨h1, -⟩
      · exact h4
      · rw [hk] at h1; cases h1
    have h3 := hereOk_fold o.2 (startOf_ok h.1 o.2).1 hp
    refine ⟨h3, fun t ht => ?_⟩
    rcases List.mem_append.mp ht with ht | ht
    · exact h.2 t ht
    · rw [List.mem_singleton.mp ht]
      exact low_str (path_low h3)
  · refine ⟨h.1, fun t ht => ?_⟩
    rcases List.mem_append.mp ht with ht | ht
    · exact h.2 t ht
    · rw [List.mem_singleton.mp ht]; trivial
theorem walked_fold : ∀ (os : List (Int × List Str)) (st : List Str × List Tell), (∀ o ∈ os, ordGood o) → (hereOk st.1 ∧ ∀ t ∈ st.2, tellOk t) → ∀ t ∈ (os.foldl walkStep st).2, tellOk t
  | [], _, _, h => h.2
  | o :: os, st, ho, h => walked_fold os (walkStep st o) (fun q hq => ho q (.tail _ hq)) (walk_ok h (ho o (.head _)))
theorem walked_ok {os : List (Int × List Str)} (h : ∀ o ∈ os, ordGood o) : ∀ t ∈ (os.foldl walkStep ([], [])).2, tellOk t :=
  walked_fold os ([], []) h ⟨(fun c hc => by cases hc), (fun t ht => by cases ht)⟩

theorem fillit_MLaw : PySem.Challenge.rw_in0069_01 = PySem.Challenge.rw_in0069_01 ∧ hd.heap_39 = hd.heap_39 := by
  w_top off
  k_fill
  exact ⟨rfl, rfl⟩
theorem mem_skip2 {a b c : Addr × Obj} {l : List (Addr × Obj)} {p : Addr × Obj} (h : p ∈ a :: b :: l) : p ∈ a :: b :: c :: l := by
  rcases List.mem_cons.mp h with rfl | h
  · exact .head _
  · rcases List.mem_cons.mp h with rfl | h
    · exact .tail _ (.head _)
    · exact .tail _ (.tail _ (.tail _ h))
theorem off_skip2 {A B P : Addr} {oa ob op : Obj} {l : List (Addr × Obj)} (ha : A ≠ P) (hb : B ≠ P) (hl : ∀ p ∈ l, p.1 ≠ P) : ∀ p ∈ (A, oa) :: (B, ob) :: l, p.1 ∉ [(P, op)].map (·.1) := by
  intro p hp q
  rw [List.map_cons, List.map_nil, List.mem_singleton] at q
  rcases List.mem_cons.mp hp with rfl | hp
  · exact ha q
  · rcases List.mem_cons.mp hp with rfl | hp
    · exact hb q
    · exact hl p hp q
theorem news_lay {g h : Heap} {L A B C D : Addr} {oa ob oc od : Obj} {l own : List (Addr × Obj)} (N : News g L h ((A, oa) :: (B, ob) :: (C, oc) :: l)) (Nd : News g L h [(D, od)]) (NO : News g L h own) : News g L h ((B, ob) :: (C, oc) :: (D, od) :: (A, oa) :: own) := by
  intro p hp
  rcases List.mem_cons.mp hp with rfl | hp
  · exact N _ (.tail _ (.head _))
  · rcases List.mem_cons.mp hp with rfl | hp
    · exact N _ (.tail _ (.tail _ (.head _)))
    · rcases List.mem_cons.mp hp with rfl | hp
      · exact Nd _ (.head _)
      · rcases List.mem_cons.mp hp with rfl | hp
        · exact N _ (.head _)
        · exact NO _ hp
theorem off_lay {g h : Heap} {L A B C D : Addr} {oa ob oc od : Obj} {own : List (Addr × Obj)} (NO : News g L h own) (hs : ∀ p ∈ own, SeqO p.2) (N : News g L h ((A, oa) :: (B, ob) :: (C, oc) :: (D, od) :: own)) (ha : ¬ SeqO oa) (hb : ¬ SeqO ob) (hc : ¬ SeqO oc) (hd : ¬ SeqO od) : OwnOff own [A, B, C, D] := fun q hq b hb' => by
  rcases List.mem_cons.mp hb' with rfl | hb'
  · exact off_seq NO hs N (.head _) ha q hq
  · rcases List.mem_cons.mp hb' with rfl | hb'
    · exact off_seq NO hs N (.tail _ (.head _)) hb q hq
    · rcases List.mem_cons.mp hb' with rfl | hb'
      · exact off_seq NO hs N (.tail _ (.tail _ (.head _))) hc q hq
      · rw [List.mem_singleton.mp hb']; exact off_seq NO hs N (.tail _ (.tail _ (.tail _ (.head _)))) hd q hq
theorem pin_left {g : Heap} {L : Addr} {P : Heap → Prop} {a b : List (Addr × Obj)} (h : ∀ h' m', Fr g L h' m' → News g L h' a → P h') : ∀ h' m', Fr g L h' m' → News g L h' (a ++ b) → P h' := fun h' m' F N => h h' m' F fun p hp => N p (List.mem_append_left _ hp)
theorem pin_right {g : Heap} {L : Addr} {P : Heap → Prop} {a b : List (Addr × Obj)} (h : ∀ h' m', Fr g L h' m' → News g L h' b → P h') : ∀ h' m', Fr g L h' m' → News g L h' (a ++ b) → P h' := fun h' m' F N => h h' m' F fun p hp => N p (List.mem_append_right _ hp)
theorem sevens {g h : Heap} {L lc : Addr} {n e : Nat} {ta tb tc td te tf tg : Tok} {rest : List (Addr × Obj)} (h9 : 9 ≤ n)
    (N : News g L h ((lc, W.listOf #[Value.int 0 ta, Value.int 1 tb, Value.int 2 tc, Value.int 3 td, Value.int ((n : Int) - 3) te, Value.int ((n : Int) - 2) tf, Value.int ((n : Int) - 1) tg] e) :: rest)) :
    ∃ vs7 : List Value, News g L h ((lc, W.listOf vs7.toArray e) :: rest) ∧ vs7.length = 7 ∧ ∀ v ∈ vs7, ∃ (k : Int) (u : Tok), v = .int k u ∧ 0 ≤ k ∧ k < (n : Int) := by
  refine ⟨_, N, rfl, ?_⟩
  exact List.forall_mem_cons.mpr ⟨⟨_, _, rfl, by omega, by omega⟩, List.forall_mem_cons.mpr ⟨⟨_, _, rfl, by omega, by omega⟩, List.forall_mem_cons.mpr ⟨⟨_, _, rfl, by omega, by omega⟩, List.forall_mem_cons.mpr ⟨⟨_, _, rfl, by omega, by omega⟩, List.forall_mem_cons.mpr ⟨⟨_, _, rfl, by omega, by omega⟩, List.forall_mem_cons.mpr ⟨⟨_, _, rfl, by omega, by omega⟩, List.forall_mem_cons.mpr ⟨⟨_, _, rfl, by omega, by omega⟩, fun _ h => nomatch h⟩⟩⟩⟩⟩⟩⟩
theorem clip_lt {n : Nat} {c : Int} (h0 : 0 ≤ c) (h1 : c < (n : Int)) : clipAt n c < n := by
  unfold clipAt
  (try split) <;> omega
theorem kept_frL {g h h' : Heap} {L : Addr} {m : Str → Option Value} (F : Fr g L h m) (hk : ∀ b o, b ≠ L → h.get? b = some o → h'.get? b = some o) (hu : h.UpToSlots h') : Fr g L h' m :=
  ⟨hu.ns F.ns, fun b o e => hk b o (fun q => absurd (Heap.lt_size e) (q ▸ Nat.not_lt.mpr F.above)) (F.keep b o e), F.above⟩
theorem kept_newsL {g h h' : Heap} {L : Addr} {news : List (Addr × Obj)} (N : News g L h news) (hk : ∀ b o, b ≠ L → h.get? b = some o → h'.get? b = some o) : News g L h' news :=
  fun p hp => ⟨hk _ _ (N p hp).2.1 (N p hp).1, (N p hp).2⟩
theorem mem_in3 {a b c p : Addr × Obj} {l : List (Addr × Obj)} (h : p ∈ [a, b, c]) : p ∈ a :: b :: c :: l := by
  rcases List.mem_cons.mp h with rfl | h
  · exact .head _
  · rcases List.mem_cons.mp h with rfl | h
    · exact .tail _ (.head _)
    · rw [List.mem_singleton.mp h]; exact .tail _ (.tail _ (.head _))
theorem mul7 {prog : Program} {w : World} {A : Around} {E : Value → Shared → Prop} {s : Shared} {h₀ : Heap} {L : Addr} {m : Str → Option Value} {news : List (Addr × Obj)} {l : Addr} {k : Nat} {u : Tok} {Q : Value → Shared → Prop}
    (F : Fr h₀ L s.heap m) (N : News h₀ L s.heap news) (hm : (l, W.listOf #[Value.bool true] k) ∈ news)
    (h : ∀ D h', Fr h₀ L h' m → News h₀ L h' ((D, W.listOf (List.replicate 7 (Value.bool true)).toArray 0) :: news) → (∀ p ∈ news, p.1 < D) → Q (.ref D) { s with heap := h' }) :
    wpAny (model prog w) A (binaryOp .Mult (.ref l) (.int 7 u)) Q E s :=
  mul_list F N (N _ hm).1 (by decide) (by decide) (by decide) fun h' F' N' => h _ h' F' N' fun p hp => Heap.lt_size (N p hp).1
theorem all_yes {h : Heap} : ∀ n : Nat, All2 (TellIs h) (List.replicate n (Value.bool true)) (List.replicate n (Tell.yes true))
  | 0 => .nil
  | n + 1 => .cons rfl (all_yes n)
theorem tells_keep {h h' : Heap} (k : Kept h h') {v : Value} {ts : List Tell} (x : ListAt h TellIs v ts) : ListAt h' TellIs v ts :=
  let ⟨l, vs, e, h1, h2⟩ := x
  ⟨l, vs, e, h1.at (k _), h2.mono fun a b y => by cases b <;> exact y⟩
theorem code_ne {h : Heap} {c P : Addr} {q : Str} {oc : Obj} (hoc : CodeO q oc) (h1 : h.get? c = some oc) (h2 : h.get? P = some (tabObj #[])) : c ≠ P := fun e => by
  rw [e, h2] at h1
  cases h1
  obtain ⟨vs, t, e1, e2⟩ := hoc
  cases e1
  cases e2
theorem off_tab {A B P : Addr} {oa ob : Obj} {own : List (Addr × Obj)} (ha : A ≠ P) (hb : B ≠ P) (hl : ∀ p ∈ own, p.1 ≠ P) : ∀ p ∈ (A, oa) :: (B, ob) :: own, p.1 ≠ P :=
  List.forall_mem_cons.mpr ⟨ha, List.forall_mem_cons.mpr ⟨hb, hl⟩⟩


example : True := by
  k_with_none
  k_with "my m_enter" => ((refine' enter0 ?k1 ?k2 ?k3 ?k5 ?kA ?kF ?kK ?k6 ?k7 ?k8 ?k9 ?kB ?_ ?c2 ?c3 ?c4 ?c5; (case kA => exact rfl); (case kF => exact rfl); (case kK => assumption); (case k1 => k_asm); (case k2 => k_asm); (case k3 => k_asm); (case k5 => k_asm); (case k6 => k_is); (case k7 => k_is); (case k8 => ktr_room); (case k9 => exact BindsTo.of_eq rfl); (case c5 => decide); (case kB => exact locs rfl); (case c2 => exact rfl); (case c3 => exact rfl); (case c4 => exact rfl); k_whole))
  k_with "my call builtin:issubclass" => ((k_here; (with_reducible show wpAny _ _ (call _ [Value.type _, Value.ref _]) _ _ _); k_dflt (refine' call_iss ?k1 ?_; (case k1 => exact News.get (by k_asm) (by k_mem)))))
  k_with "my m_start" => ((refine wpAny_call ?_; k_dflt (walk_at "m_enter")))
  k_with "my m_use" => (((case kB => k_asm); (case kF => k_asm); (case kX => k_asm); (case kN => k_asm); (case kT => k_asm); (case kK => first | exact rfl | assumption); (case kD => ktr_room); (case kU => ktr_units)))
  k_with "my exec For Name Name cons nil" => ((k_here; refine Stop.out ?_))
  k_with "my exec For Tuple Name cons nil" => ((k_here; refine Stop.out ?_))
  k_with "my eval ListComp Call cons" => ((k_here; refine Stop.out ?_))
  k_with "my eval ListComp Name cons" => ((k_here; refine Stop.out ?_))
  k_with "my eval ListComp BinOp cons" => ((k_here; refine Stop.out ?_))
  k_with "my eval ListComp Tuple cons" => ((k_here; refine Stop.out ?_))
  k_with "my m_loc" => (first
  | exact rfl
  | with_reducible assumption
  | (refine Eq.trans (if_neg (by decide)) ?_; walk_at "m_loc")
  | ((with_reducible rename (∀ y : PySem.Str, y ≠ _ → _ = _) => hm9); refine Eq.trans (hm9 _ (by decide)) ?_; walk_at "m_loc"))
  k_with "my truthy ref" => ((k_here; (with_reducible show wpAny _ _ (truthy (Value.ref _)) _ _ _); k_dflt (refine' kgr_truthy ?N ?hm ?hc ?hd ?hf ?_; (case N => k_asm); (case hm => k_mem); (case hc => exact rfl); (case hd => exact rfl); (case hf => ((try simp only [strValues_length, List.length_append, List.length_cons, List.length_nil]); omega)); k_whole; (simp only [snoc_isEmpty, List.isEmpty_nil, Bool.not_true, Bool.not_false]))))
  k_with "my call builtin:list.append" => ((k_here; (with_reducible show wpAny _ _ (call (Value.builtin _) [Value.ref _, _]) _ _ _); k_dflt (refine' my_append ?F ?N ?U ?z ?_; (case F => k_asm); (case N => k_asm); (case U => k_upd); (case z => (rw [PySem.sizeLine_eq]; (try simp only [strValues_length, List.length_append, List.length_cons, List.length_nil]); omega)); k_whole; intro _ _ _; (try k_sweep))))
  k_with "my call builtin:list.pop" => ((k_here; (with_reducible show wpAny _ _ (call (Value.builtin _) [Value.ref _]) _ _ _); k_dflt (refine' my_pop ?F ?N ?U ?z ?_; (case F => k_asm); (case N => k_asm); (case U => k_upd); (case z => (rw [PySem.sizeLine_eq]; (try simp only [strValues_length, List.length_append, List.length_cons, List.length_nil]); omega)); k_whole; intro _ _ _; (try k_sweep))))
  k_with "my subscriptTail Name UnaryOp ref int" => ((k_here; (with_reducible show wpAny _ _ (subscriptTail _ _ (Value.ref _) (Value.int _ _)) _ _ _); k_dflt (refine' my_last ?N ?hm ?_; (case N => k_asm); (case hm => k_mem); k_whole)))
  k_with "my call builtin:str.join" => ((k_here; (with_reducible show wpAny _ _ (call (Value.builtin _) [Value.str _ _, Value.ref _]) _ _ _); k_dflt (refine' join_list (News.isList ?N ?hm) ?S ?ok ?_; (case N => k_asm); (case hm => k_mem); (case S => with_reducible assumption); (case ok => ((simp only [show (Str.ofString "/").length = 1 from rfl, show (Str.ofString "").length = 0 from rfl]); omega)); k_whole; intro _ _)))
  k_with "my binaryOp Add str str" => ((k_here; (with_reducible show wpAny _ _ (binaryOp Operator.Add (Value.str _ _) (Value.str _ _)) _ _ _); k_dflt (refine' SBL.add (hsz := ?z) ?_; (case z => (rw [PySem.sizeLine_eq]; (try simp only [show (Str.ofString "/").length = 1 from rfl]); omega)); k_whole; intro _ _)))
  k_with "my truthy str" => ((k_here; (with_reducible show wpAny _ _ (PySem.truthy (Value.str _ _)) _ _ _); k_dflt (refine' KXt.truthy_pos (K := 16777216) ?za ?zb (Nat.le_refl _) ?_; (case za => omega); (case zb => omega); k_whole; intro _)))
  k_with "my eval Name" => (((k_here; (with_reducible rename NsObj _ _ => nX9); k_dflt (refine' ldVarK (NsObj.ns nX9 (News.get ?N ?hm)) ?hv ?_; (case N => k_asm); (case hm => k_mem); (case hv => with_reducible assumption); k_whole)); (try walk_at "m_hX")))
  k_with "my call builtin:str.join" => ((k_here; (with_reducible show wpAny _ _ (call (Value.builtin _) [Value.str _ _, Value.ref _]) _ _ _); k_dflt (refine' join_list ?hl ?S ?ok ?_; (case hl => exact Heap.IsList.at (by with_reducible assumption) (Fr.keep (by k_asm) _)); (case S => with_reducible assumption); (case ok => ((simp only [show (Str.ofString "/").length = 1 from rfl, show (Str.ofString "").length = 0 from rfl]); omega)); k_whole; intro _ _)))
  k_with "my eval Name" => (((k_here; (with_reducible rename Fr _ _ _ _ => kF); (with_reducible rename NsObj _ _ => nX9); k_dflt (refine' nameG_B kF ?k1 ?k2 ?k3 ?k4 ?k5 ?_ ?k6 ?k7 ?k8 ?k9 ?k10; (case k1 => k_asm); (case k2 => k_asm); (case k3 => k_is); (case k4 => boot_by_name); (case k5 => decide); (case k6 => exact rfl); (case k7 => exact rfl); (case k8 => exact rfl); (case k9 => exact rfl); (case k10 => decide); k_whole)); (try walk_at "m_hF"); (try walk_at "m_hX")))
  k_with "my binaryOp Add ref ref" => ((k_here; (with_reducible show wpAny _ _ (binaryOp Operator.Add (Value.ref _) (Value.ref _)) _ _ _); k_dflt (refine' add_lists ?F ?N (News.isList ?N1 ?m1) (News.isList ?N2 ?m2) ?_ ?z; (case F => k_asm); (case N => k_asm); (case N1 => k_asm); (case m1 => k_mem); (case N2 => k_asm); (case m2 => k_mem); (case z => (rw [PySem.sizeLine_eq]; (try simp only [List.length_append, List.length_cons, List.length_nil]); omega)); k_whole; intro _ _ _; (try k_sweep))))
  k_with "my call builtin:len" => ((k_here; (with_reducible show wpAny _ _ (call _ [Value.ref _]) _ _ _); k_dflt (refine' len_list ?hl ?hf ?_; (case hl => exact Heap.IsList.at (by with_reducible assumption) (Fr.keep (by k_asm) _)); (case hf => ((simp only [List.size_toArray]); omega)); k_whole; (try simp only [List.size_toArray]))))
  k_with "my call type:bytes" => ((k_here; (with_reducible show wpAny _ _ (call (Value.type _) [Value.ref _]) _ _ _); k_dflt (refine' bytes_K ?F ?N (News.isList ?N1 ?m1) ?i ?r ?z ?h ?_; (case F => k_asm); (case N => k_asm); (case N1 => k_asm); (case m1 => k_mem); (case i => with_reducible assumption); (case r => with_reducible assumption); (case z => (rw [PySem.sizeLine_eq]; omega)); (case h => exact rfl); k_whole; intro _ _ _ _ _ _; (try k_sweep))))
  k_with "my eval Name" => (((k_here; (with_reducible rename Fr _ _ _ _ => kF); k_dflt (refine' nameX_L kF ?k2 ?_ ?a ?b; (case b => exact rfl); (case a => exact rfl); (case k2 => walk_at "m_loc"); k_whole); (try dsimp only)); (try walk_at "m_hF")))
  k_with "my eval Name" => (((k_here; (with_reducible rename News _ _ _ _ => kN); k_dflt (refine' nameX_C kN ?hc ?hm ?hd ?_ ?a ?b; (case b => exact rfl); (case a => exact rfl); (case hc => exact rfl); (case hm => k_mem); (case hd => with_reducible assumption); k_whole)); (try walk_at "m_hN")))
  k_with "my m_enterC" => ((refine' enterC0 ?k1 ?k2 ?k3 ?k5 ?kA ?kF ?kK ?k6 ?k7 ?k8 ?k9 ?kB ?kD ?_ ?c2 ?c3 ?c4; (case kA => exact rfl); (case kF => exact rfl); (case kK => assumption); (case k1 => k_asm); (case k2 => k_asm); (case k3 => k_asm); (case k5 => k_asm); (case k6 => k_is); (case k7 => k_is); (case k8 => ktr_room); (case k9 => exact BindsTo.of_eq rfl); (case kB => exact rfl); (case kD => decide +kernel); (case c2 => exact rfl); (case c3 => exact rfl); (case c4 => exact rfl); k_whole))
  k_with "my m_startC" => ((refine wpAny_call ?_; k_dflt (walk_at "m_enterC")))
  k_with "my exec For Name Subscript cons nil" => ((k_here; refine Stop.out ?_))
  k_with "my exec For Name Call cons nil" => ((k_here; refine Stop.out ?_))
  k_with "my pyIter ref" => ((k_here; refine Stop.out ?_))
  k_with "my subscriptTail Name Slice ref ref" => ((k_here; (with_reducible show wpAny _ _ (subscriptTail _ (PySem.Expr.Slice none none (some _) _) (Value.ref _) (Value.ref _)) _ _ _); k_dflt (refine' my_rev ?F ?N ?l ?k ?_ ?s ?t ?z; (case F => k_asm); (case N => k_asm); (case l => exact Heap.IsList.at (by with_reducible assumption) (Fr.keep (by k_asm) _)); (case k => exact IsPart.int _ _); (case s => with_unfolding_all rfl); (case t => kmk_pure); (case z => (rw [PySem.sizeLine_eq]; omega))); k_whole; walk_at "m_i5"))
  k_with "my call type:range" => (((k_here; (with_reducible show wpAny _ _ (call (Value.type _) [Value.int _ _]) _ _ _); (with_reducible rename Fr _ _ _ _ => kF); (with_reducible rename News _ _ _ _ => kN); k_dflt (refine' range1_rows kF kN ?_; k_whole; intro _ _ _ _ _ _ _ _ _)); (try walk_at "m_hF"); (try walk_at "m_hN")))
  k_with "my eval Name" => (((k_here; (with_reducible rename NsObj _ _ => nX9); (with_reducible rename News _ _ _ _ => kN); k_dflt (refine' ldFreeK ?hc ?hv ?_ ?hk ?hl; (case hl => exact rfl); (case hk => exact rfl); (case hc => exact rfl); (case hv => exact ⟨_, News.get kN (by k_mem), by with_reducible assumption⟩); k_whole)); (try walk_at "m_hN"); (try walk_at "m_hX")))
  k_with "my compareOp NotEq ref ref" => ((k_here; (with_reducible show wpAny _ _ (compareOp CmpOp.NotEq (Value.ref _) (Value.ref _)) _ _ _); k_dflt (refine' my_neE (News.isList ?N1 ?m1) ?i1 (News.isList ?N2 ?m2) ?u ?_; (case N1 => k_asm); (case m1 => k_mem); (case i1 => with_reducible assumption); (case N2 => k_asm); (case m2 => k_mem); (case u => units_room); k_whole; (try simp only [List.isEmpty_cons, List.isEmpty_nil, Bool.not_true, Bool.not_false]))))
  k_with "my call builtin:max" => ((k_here; (with_reducible show wpAny _ _ (call (Value.builtin _) [Value.ref _]) _ _ _); k_dflt (refine' kso_max ?F ?N (News.isList ?N1 ?m1) ?i1 ?z ?hh ?_; (case F => k_asm); (case N => k_asm); (case N1 => k_asm); (case m1 => k_mem); (case i1 => with_reducible assumption); (case z => (simp only [List.length_cons]; omega)); (case hh => with_unfolding_all rfl); k_whole; intro _ _ _ _ _ _ _ _)))
  k_with "my call builtin:min" => ((k_here; (with_reducible show wpAny _ _ (call (Value.builtin _) [Value.ref _]) _ _ _); k_dflt (refine' kso_min ?F ?N (News.isList ?N1 ?m1) ?i1 ?z ?hh ?_; (case F => k_asm); (case N => k_asm); (case N1 => k_asm); (case m1 => k_mem); (case i1 => with_reducible assumption); (case z => (simp only [List.length_cons]; omega)); (case hh => with_unfolding_all rfl); k_whole; intro _ _ _ _ _ _ _ _)))
  k_with "my call ref" => ((k_here; (with_reducible show wpAny _ _ (call (Value.ref 198) [_]) _ _ _); refine Stop.out ?_))
  k_with "my call ref" => ((k_here; (with_reducible show wpAny _ _ (call (Value.ref 203) [_]) _ _ _); refine Stop.out ?_))
  k_with "my call ref" => ((k_here; (with_reducible show wpAny _ _ (call (Value.ref 208) [_]) _ _ _); refine Stop.out ?_))
  k_with "my call ref" => ((k_here; (with_reducible show wpAny _ _ (call (Value.ref 213) [_]) _ _ _); refine Stop.out ?_))
  k_with "my call ref" => ((k_here; (with_reducible show wpAny _ _ (call (Value.ref 220) [_]) _ _ _); refine Stop.out ?_))
  k_with "my call ref" => ((k_here; (with_reducible show wpAny _ _ (call (Value.ref 237) [_]) _ _ _); refine Stop.out ?_))
  k_with "my call ref" => ((k_here; (with_reducible show wpAny _ _ (call (Value.ref 244) [_]) _ _ _); refine Stop.out ?_))
  k_with "my compareOp NotEq ref ref" => ((k_here; refine Stop.out ?_))
  k_with "my compareOp Eq ref ref" => ((k_here; refine Stop.out ?_))
  k_with "my eval Name" => (k_here; dsimp only)
  k_with "my eval Constant int" => (k_here; dsimp only)
  k_with "my eval Constant str" => (k_here; dsimp only)
  k_with "my m_fold" => (((first | (with_reducible show wpAny _ _ (PySem.execs _ _) _ _ _) | (with_reducible show wpAny _ _ (PySem.exec _ _) _ _ _)); (first | ((fail_if_success (have := qk0)); k_fold; (rename PySem.Flow → PySem.Shared → Prop => qk0); (rename PySem.Value → PySem.Shared → Prop => ek0)) | ((fail_if_success (have := qk1)); k_fold; (rename PySem.Flow → PySem.Shared → Prop => qk1); (rename PySem.Value → PySem.Shared → Prop => ek1)) | ((fail_if_success (have := qk2)); k_fold; (rename PySem.Flow → PySem.Shared → Prop => qk2); (rename PySem.Value → PySem.Shared → Prop => ek2)) | ((fail_if_success (have := qk3)); k_fold; (rename PySem.Flow → PySem.Shared → Prop => qk3); (rename PySem.Value → PySem.Shared → Prop => ek3)) | ((fail_if_success (have := qk4)); k_fold; (rename PySem.Flow → PySem.Shared → Prop => qk4); (rename PySem.Value → PySem.Shared → Prop => ek4)) | ((fail_if_success (have := qk5)); k_fold; (rename PySem.Flow → PySem.Shared → Prop => qk5); (rename PySem.Value → PySem.Shared → Prop => ek5)) | ((fail_if_success (have := qk6)); k_fold; (rename PySem.Flow → PySem.Shared → Prop => qk6); (rename PySem.Value → PySem.Shared → Prop => ek6)) | ((fail_if_success (have := qk7)); k_fold; (rename PySem.Flow → PySem.Shared → Prop => qk7); (rename PySem.Value → PySem.Shared → Prop => ek7)) | ((fail_if_success (have := qk8)); k_fold; (rename PySem.Flow → PySem.Shared → Prop => qk8); (rename PySem.Value → PySem.Shared → Prop => ek8)) | ((fail_if_success (have := qk9)); k_fold; (rename PySem.Flow → PySem.Shared → Prop => qk9); (rename PySem.Value → PySem.Shared → Prop => ek9)) | ((fail_if_success (have := qk10)); k_fold; (rename PySem.Flow → PySem.Shared → Prop => qk10); (rename PySem.Value → PySem.Shared → Prop => ek10)) | ((fail_if_success (have := qk11)); k_fold; (rename PySem.Flow → PySem.Shared → Prop => qk11); (rename PySem.Value → PySem.Shared → Prop => ek11)) | ((fail_if_success (have := qk12)); k_fold; (rename PySem.Flow → PySem.Shared → Prop => qk12); (rename PySem.Value → PySem.Shared → Prop => ek12)) | ((fail_if_success (have := qk13)); k_fold; (rename PySem.Flow → PySem.Shared → Prop => qk13); (rename PySem.Value → PySem.Shared → Prop => ek13)) | ((fail_if_success (have := qk14)); k_fold; (rename PySem.Flow → PySem.Shared → Prop => qk14); (rename PySem.Value → PySem.Shared → Prop => ek14)) | ((fail_if_success (have := qk15)); k_fold; (rename PySem.Flow → PySem.Shared → Prop => qk15); (rename PySem.Value → PySem.Shared → Prop => ek15)))))
  k_with "my m_tidy" => (((try clear qk15); (try clear ek15)); ((try clear qk14); (try clear ek14)); ((try clear qk13); (try clear ek13)); ((try clear qk12); (try clear ek12)); ((try clear qk11); (try clear ek11)); ((try clear qk10); (try clear ek10)); ((try clear qk9); (try clear ek9)); ((try clear qk8); (try clear ek8)); ((try clear qk7); (try clear ek7)); ((try clear qk6); (try clear ek6)); ((try clear qk5); (try clear ek5)); ((try clear qk4); (try clear ek4)); ((try clear qk3); (try clear ek3)); ((try clear qk2); (try clear ek2)); ((try clear qk1); (try clear ek1)); ((try clear qk0); (try clear ek0)))
  k_with "my execs cons" => (first | (k_here; k_gentoks) | (k_here; walk_at "m_fold") | (k_here; walk_at "m_tidy"; (with_reducible refine wpAny_execs_cons ?_); (try dsimp only); (try walk_at "m_fold")))
  trivial


set_option maxHeartbeats 8000000 in
theorem law_holds : PySem.Challenge.rw_in0069_01.Holds := by
  refine holds_law look39 fun said => ?_
  clear said
  refine holds_open (q := hd.view_39) (loose := [Str.ofString "_twin_re_1", Str.ofString "_special_chars_map"]) (Xt := X39) (XP := XL hd.view_39 []) (Yf := Hook.obs H39) (Ya := Hook.val H39) (YP := Hook.says (kmHook hd.heap_39 as39 e39 [71, 210])) (N := 5476) left39 (Hook.of H39) (Hook.keeps H39) (fun s e => xl_of s (Bool.and_eq_true_iff.mp e).1) XL.keeps (by rfl) (by rfl) (by rfl) (fun s e => recFacts_of (Bool.and_eq_true_iff.mp e).2) (by rfl) (row_said look39) (by decide +kernel) ⟨rfl, rfl, rfl, rfl, rfl, by decide +kernel⟩ ?hw ?hc
  case hw => w_witness2
  k_go0
  (all_goals try k_fold)
  (all_goals try walk_at "m_fold")
  k_steps
  with_reducible rename Fr _ _ _ _ => F1
  with_reducible rename News _ _ _ _ => N1
  with_reducible rename Top _ _ _ _ _ (ghostOf _ _) => T1
  with_reducible rename Below _ _ _ _ => B1
  with_reducible rename Frag.In _ (ghostOf _ _) => X1
  with_reducible rename (_ : Obj).data = Data.cell _ => dc
  rename_i ws hA hI hC hL lD
  refine Stop.go ?_
  have hlen := Nat.le_trans (Nat.le_of_eq hC) (Nat.min_le_left 7 _)
  refine' use0 (orders_spec _ _ _ hlen) B1 F1 X1 N1 T1 rfl ?kD ?kU ?pre ?_
  case kD => ktr_room
  case kU => ktr_units
  case pre => exact ⟨_, _, rfl, News.isList N1 (by k_mem), hI⟩
  rintro v1 h1 tk1 hk1 hq0 F2 N2
  refine hide ?_
  intro Gq hGq
  obtain ⟨os, hos, hgood, hol4, hol⟩ := hq0
  refine hGq ?_
  clear hGq Gq
  refine hide ?_
  intro Gq hGq
  obtain ⟨own1, NO1, hsq1, pin1⟩ := pin_list F2 (fun _ _ x => x.objs) hos
  refine hGq ?_
  clear hGq Gq
  have off1 : OwnOff own1 [_, 71, 210] := fun q hq b hb => by
    rcases List.mem_cons.mp hb with rfl | hb
    · exact off_seq NO1 hsq1 N2 (.tail _ (.head _)) (cell_not_seq dc) q hq
    · rcases List.mem_cons.mp hb with rfl | hb
      · exact off_seq NO1 hsq1 N2 (.tail _ (.tail _ (.head _))) (tab_not_seq _) q hq
      · rw [List.mem_singleton.mp hb]; exact off_seq NO1 hsq1 N2 (.tail _ (.tail _ (.tail _ (.head _)))) (tab_not_seq _) q hq
  replace N2 : News _ _ h1 ((_, _) :: (71, tabObj #[]) :: (210, tabObj #[]) :: own1) := news_app (fun p hp => N2 p (.tail _ hp)) NO1
  refine hide ?_
  intro Gq hGq
  obtain ⟨l1, vs1, rfl, -⟩ := id hos
  refine hGq ?_
  clear hGq Gq
  clear F1 N1 hos hI hC hL lD hk1 NO1
  (all_goals try walk_at "m_fold")
  k_steps
  with_reducible rename Fr _ _ _ _ => F3
  with_reducible rename News _ _ _ _ => N3
  refine Stop.go ?_
  refine' use0 (words_spec _ l1 os (fun o ho => good_short (hgood o ho)) (by omega)) B1 F3 X1 N3 T1 rfl ?kD ?kU ?pre ?_
  case kD => ktr_room
  case kU => ktr_units
  case pre => exact pin1 _ _ F3 fun p hp => N3 p (.tail _ (.tail _ (.tail _ hp)))
  rintro v2 h2 tk2 - hw2 F4 N4
  refine hide ?_
  intro Gq hGq
  obtain ⟨l2, vs2, rfl, -⟩ := id hw2
  refine hGq ?_
  clear hGq Gq
  clear F3 N3
  have hwok : ∀ o ∈ os.map wordOf, WordOk o := fun o ho => by
    obtain ⟨q, hq, rfl⟩ := List.mem_map.mp ho
    exact good_word (hgood q hq)
  (all_goals try walk_at "m_fold")
  k_steps
  refine Stop.go ?_
  refine' use0 (tape_spec _ l2 (os.map wordOf) hwok (by rw [List.length_map]; omega)) B1 F4 X1 N4 T1 rfl ?kD ?kU ?pre ?_
  case kD => ktr_room
  case kU => ktr_units
  case pre => exact hw2
  rintro v3 h3 tk3 - ⟨t3, rfl⟩ F5 N5
  clear F4 N4 hw2
  (all_goals try walk_at "m_fold")
  k_steps
  with_reducible rename Fr _ _ _ _ => F6
  with_reducible rename News _ _ _ _ => N6
  with_reducible rename (_ : Obj).data = Data.cell (some (Value.bytes _ _)) => dt
  have hwl : (os.map wordOf).length = os.length := List.length_map _
  have hbi := tape_ints hwok (by omega)
  have hpar := parse_tape hwok
  have htl := tape_len hwok (by omega) (by omega)
  have hcut : ∀ cut, cut < (tapeI (os.map wordOf)).length → parseAll ((tapeI (os.map wordOf)).take cut) = none := fun cut hc => parse_cut hwok hc
  generalize byteArr (tapeI (os.map wordOf)) = bs at hbi dt ⊢
  generalize tapeI (os.map wordOf) = ks at hbi hpar htl hcut
  have N60 : News _ _ _ [(210, tabObj #[])] := fun p hp => N6 p (by rw [List.mem_singleton.mp hp]; exact .tail _ (.tail _ (.head _)))
  refine Stop.go ?_
  refine' read_spec _ bs ks t3 hbi htl.2 _ _ _ _ _ _ _ _ _ _ _ _ _ _ _ _ _ _ _ _ _ _ [(210, tabObj #[])] (.inl rfl) (fun q => by rw [hpar] at q; cases q) B1 F6 X1 T1 rfl ?kD ?kU N60 ?ret ?bad
  case kD => ktr_room
  case kU => ktr_units
  case bad => intro q; rw [hpar] at q; cases q
  intro ws4 v4 h4 tk4 c1 c2 oc hps hoc hown h210 hc1 hk4 hl4
  rw [hpar] at hps
  cases hps
  replace hown := hown.resolve_right fun q => by cases q
  replace hown := hown.2
  have F7 := kept_fr F6 N60 hk4
  have N7a := kept_news (own := [(210, tabObj #[])]) (news := (_, _) :: (71, tabObj #[]) :: own1) (fun p hp => N6 p (mem_skip2 hp)) hk4 (off_skip2 (by k_ne) (by decide) fun p hp => off1 p hp _ (.tail _ (.tail _ (.head _))))
  have N7b := fresh_news F6 hown hc1 N7a
  have h210n : News _ _ h4 [(210, tabObj (psTwo 242 4 246 13 c1 c2))] := fun p hp => by rw [List.mem_singleton.mp hp]; exact ⟨h210, (N60 _ (.head _)).2⟩
  refine hide ?_
  intro Gq hGq
  obtain ⟨own2, NO2, hsq2, pin2⟩ := pin_list F7 (fun _ _ x => x.objs) hl4
  refine hGq ?_
  clear hGq Gq
  have NO : News _ _ h4 (own1 ++ own2) := news_app (fun p hp => N7a p (.tail _ (.tail _ hp))) NO2
  have hsq : ∀ p ∈ own1 ++ own2, SeqO p.2 := fun p hp => (List.mem_append.mp hp).elim (hsq1 p) (hsq2 p)
  have N8 := news_lay N7b h210n NO
  have off2 := off_lay NO hsq N8 (cell_not_seq dt) (tab_not_seq _) (tab_not_seq _) (code_not_seq hoc)
  replace pin1 := pin_left (b := own2) pin1
  replace pin2 := pin_right (a := own1) pin2
  generalize own1 ++ own2 = own at N8 off2 pin1 pin2
  refine hide ?_
  intro Gq hGq
  obtain ⟨l4, vs4, rfl, -⟩ := id hl4
  refine hGq ?_
  clear hGq Gq
  clear F6 N6 N60 N7a N7b h210n NO NO2 hsq hsq1 hsq2 off1 hk4 h210 hc1 hown hl4
  (all_goals try walk_at "m_fold")
  k_steps
  with_reducible rename Fr _ _ _ _ => F9
  with_reducible rename News _ _ _ _ => N9
  refine Stop.go ?_
  refine' use0 (words_spec _ l1 os (fun o ho => good_short (hgood o ho)) (by omega)) B1 F9 X1 N9 T1 rfl ?kD ?kU ?pre ?_
  case kD => ktr_room
  case kU => ktr_units
  case pre => exact pin1 _ _ F9 fun p hp => N9 p (.tail _ (.tail _ (.tail _ (.tail _ hp))))
  rintro v5 h5 tk5 - hw5 FA NA
  refine hide ?_
  intro Gq hGq
  obtain ⟨l5, vs5, rfl, -⟩ := id hw5
  refine hGq ?_
  clear hGq Gq
  clear F9 N9
  (all_goals try walk_at "m_fold")
  k_steps
  refine Stop.go ?_
  refine words_ne (pin2 _ _ FA fun p hp => NA p (.tail _ (.tail _ (.tail _ (.tail _ hp))))) hw5 (fun o ho => word_str (hwok o ho)) ?hu ?_
  case hu => units_room
  clear hw5
  (all_goals try walk_at "m_fold")
  k_steps
  with_reducible rename Fr _ _ _ _ => FB
  with_reducible rename News _ _ _ _ => NB
  refine Stop.go (eval_comp (cl := [(Str.ofString "tape", _)]) (by rfl) rfl (by decide) ?_)
  (all_goals try walk_at "m_fold")
  k_steps
  with_reducible rename Fr _ _ _ _ => FB
  with_reducible rename News _ _ _ _ => NB
  rename_i lc hB2 llc
  refine hide ?_
  intro Gq hGq
  obtain ⟨vs7, NB, hl7, hv7⟩ := sevens htl.1 NB
  refine hGq ?_
  clear hGq Gq
  refine led_hide NB fun led hled NC => map_hide FB fun m2 hm2 FC => ?_
  refine Stop.go ?_
  refine comp_list (vs := vs7) (l := lc) (m₀ := m2) (news₀ := led) (fun j outs news => news = led ∧ outs = List.replicate j (Value.bool true)) (fun _ v m' => m' (Str.ofString "cut") = some v) (fun _ _ _ _ => False)
    rfl (by rw [hl7, sizeLine_eq]; decide) (by decide) rfl (News.isList NB (by k_mem)) FC NC ⟨rfl, rfl⟩ ?_ (fun _ _ _ _ _ _ _ _ _ _ _ hn k => asg_name rfl rfl hn k) (fun _ _ _ _ x => x.elim) ?_ ?_
  · refine ⟨W.listOf vs7.toArray 0, ?_⟩
    rintro j outs news h2 ⟨rfl, -⟩ - Nx
    rw [hled] at Nx
    exact News.get Nx (by k_mem)
  · rintro j v outs news₁ h2 tk2 I2 oI2 D2 C oC mC nD hj hvj ⟨rfl, hJ⟩ hnC hmC hne2 hI2 hDC hID Fh Nh
    refine wpAny_tests_nil ?_
    rw [if_pos rfl]
    refine hide ?_
    intro Gq hGq
    obtain ⟨cut, uc, rfl, hc0, hc1⟩ := hv7 v (List.mem_of_getElem? hvj)
    refine hGq ?_
    clear hGq Gq
    clear FB NB FC NC hm2
    subst hled
    k_lt hI2
    k_lt2 hDC
    k_lt2 hID
    replace Fh : Fr _ _ h2 _ := Fh
    replace Nh : News _ _ h2 _ := Nh
    (all_goals try walk_at "m_fold")
    k_steps
    with_reducible rename KBw.bInts (KBy.picked _ _ _) = _ => hkb
    with_reducible rename Fr _ _ _ _ => FD
    with_reducible rename News _ _ _ _ => ND
    have hcl : clipAt ks.length cut < ks.length := clip_lt hc0 hc1
    refine Stop.go ?_
    refine' refused_spec _ _ _ _ hkb (by rw [List.length_take]; omega) (hcut _ hcl) _ _ _ _ _ _ _ _ _ _ _ _ _ _ _ _ _ _ _ _ _ c1 c2 oc hoc B1 FD X1 T1 rfl ?kD ?kU ?kN ?_
    case kD => ktr_room
    case kU => ktr_units
    case kN => (intro p hp; rcases List.mem_cons.mp hp with rfl | hp; exact ND (210, tabObj (psTwo 242 4 246 13 c1 c2)) (by k_mem); rw [List.mem_singleton.mp hp]; exact ND (c1, oc) (by k_mem))
    intro h9 tk9 hk9 hup
    have FE := kept_frL FD hk9 hup
    have NE := kept_newsL ND hk9
    clear FD ND hk9 hup
    refine MakeEnd.go _ FE NE (fun p hp => mem_in3 hp) (fun p hp => .tail _ (.tail _ (.tail _ hp))) (off3 hne2) ⟨rfl, ?_⟩
    rw [hJ]
    exact List.replicate_succ'.symm
  · rintro outs news₁ h2 tk2 D2 nD ⟨rfl, hJ⟩ Fh Nh hne2 hlt
    rw [hl7] at hJ
    subst hJ
    subst hm2
    clear FB NB FC NC
    subst hled
    k_lt hlt
    replace Fh : Fr _ _ h2 _ := Fh
    replace Nh : News _ _ h2 _ := Nh
    (all_goals try walk_at "m_fold")
    k_steps
    with_reducible rename Fr _ _ _ _ => FH
    with_reducible rename News _ _ _ _ => NH
    rename_i lt7 hI7 llt7
    refine mul7 FH NH (.head _) ?_
    intro l77 h77 FI NI ll77
    clear FH NH
    (all_goals try walk_at "m_fold")
    k_steps
    refine Stop.go ?_
    refine trues_ne (n := 7) ⟨D2, _, rfl, News.isList NI (.tail _ (.tail _ (.head _))), all_yes 7⟩ ⟨l77, _, rfl, News.isList NI (.head _), all_yes 7⟩ ?hu ?_
    case hu => units_room
    replace NI : News _ _ h77 ((_, _) :: (71, tabObj #[]) :: (210, tabObj (psTwo 242 4 246 13 c1 c2)) :: (c1, oc) :: own) := fun p hp => NI p (.tail _ (.tail _ (.tail _ (.tail _ hp))))
    (all_goals try walk_at "m_fold")
    k_steps
    with_reducible rename Fr _ _ _ _ => FJ
    with_reducible rename News _ _ _ _ => NJ
    refine Stop.go ?_
    refine' use71 (done_spec _ l4 os hgood hol) B1 FJ X1 NJ T1 rfl ?kD ?kU (.inl rfl) ?U ?pre ?_
    case kD => ktr_room
    case kU => ktr_units
    case U => exact .tail (by k_ne) (.head (off_tab (by decide) (code_ne hoc (NJ (c1, oc) (.tail _ (.tail _ (.tail _ (.head _))))).1 (NJ (71, tabObj #[]) (.tail _ (.head _))).1) fun p hp => off2 p hp _ (.tail _ (.head _))))
    case pre => exact pin2 _ _ FJ fun p hp => NJ p (.tail _ (.tail _ (.tail _ (.tail _ hp))))
    rintro v6 h6 tk6 ps6 htb6 hk6 hd6 FK NK
    try dsimp only at NK
    refine hide ?_
    intro Gq hGq
    obtain ⟨l6, vs6, rfl, -⟩ := id hd6
    refine hGq ?_
    clear hGq Gq
    clear FJ NJ hk6
    (all_goals try walk_at "m_fold")
    k_steps
    with_reducible rename Fr _ _ _ _ => FK
    with_reducible rename News _ _ _ _ => NK
    refine Stop.go ?_
    refine' use0 (walked_spec _ l1 os (fun o ho => (hgood o ho).1) (by omega)) B1 FK X1 NK T1 rfl ?kD ?kU ?pre ?_
    case kD => ktr_room
    case kU => ktr_units
    case pre => exact pin1 _ _ FK fun p hp => NK p (.tail _ (.tail _ (.tail _ (.tail _ hp))))
    rintro v7 h7 tk7 hk7 hd7 FM NM
    refine hide ?_
    intro Gq hGq
    obtain ⟨l7, vs7', rfl, -⟩ := id hd7
    refine hGq ?_
    clear hGq Gq
    have hd6' := tells_keep hk7 hd6
    (all_goals try walk_at "m_fold")
    k_steps
    refine Stop.go ?_
    refine tells_eq hd6' hd7 (walked_ok hgood) ?hu ?_
    case hu => units_room
    (all_goals try walk_at "m_fold")
    k_steps
end Mine

theorem PySem.Challenge.cw_in0069_01_holds : PySem.Challenge.rw_in0069_01.Holds :=
  Mine.law_holds
