import PyProof.Rows.All
import Wide.All
import OpenK.AllK
import Wide.FinOn
import Lean
import PySem.Challenge.RW_jv0049_01
open PySem PySem.W PyProof.Rows
set_option Elab.async false
set_option maxRecDepth 100000
set_option maxHeartbeats 8000000
namespace Mine
/-- a statement of the law's program -/
def stm (i : Nat) : Stmt := (PySem.Challenge.pw_jv0049_01.main.body[i]?).getD (.Pass ⟨0, 0, 0, 0⟩)
def inCls (j : Nat) : Stmt → Stmt
  | .ClassDef _ _ _ b _ _ _ _ _ _ _ => (b[j]?).getD (.Pass ⟨0, 0, 0, 0⟩)
  | s => s
def prmOf : Stmt → Arguments
  | .FunctionDef _ a _ _ _ _ _ _ _ _ => a
  | _ => { posonlyargs := [], args := [], vararg := none, kwonlyargs := [], kw_defaults := [], kwarg := none, defaults := [] }
def bdyOf : Stmt → List Stmt
  | .FunctionDef _ _ b _ _ _ _ _ _ _ => b
  | _ => []
def scpOf : Stmt → Scope
  | .FunctionDef _ _ _ _ _ _ s _ _ _ => s
  | _ => { kind := .function, names := [], isGenerator := false, isCoroutine := false }
noncomputable def fa_0 : Arguments := by
  refine (?f : (x : Arguments) → x = prmOf (stm 0) → Arguments) ?x ?h
  case f => exact fun x _ => x
  case h =>
    conv => rhs; whnf
noncomputable def fb_0 : List Stmt := by
  refine (?f : (x : List Stmt) → x = bdyOf (stm 0) → List Stmt) ?x ?h
  case f => exact fun x _ => x
  case h =>
    conv => rhs; whnf
noncomputable def fs_0 : Scope := by
  refine (?f : (x : Scope) → x = scpOf (stm 0) → Scope) ?x ?h
  case f => exact fun x _ => x
  case h =>
    conv => rhs; whnf
noncomputable def fa_2_0 : Arguments := by
  refine (?f : (x : Arguments) → x = prmOf (inCls 0 (stm 2)) → Arguments) ?x ?h
  case f => exact fun x _ => x
  case h =>
    conv => rhs; whnf
noncomputable def fb_2_0 : List Stmt := by
  refine (?f : (x : List Stmt) → x = bdyOf (inCls 0 (stm 2)) → List Stmt) ?x ?h
  case f => exact fun x _ => x
  case h =>
    conv => rhs; whnf
noncomputable def fs_2_0 : Scope := by
  refine (?f : (x : Scope) → x = scpOf (inCls 0 (stm 2)) → Scope) ?x ?h
  case f => exact fun x _ => x
  case h =>
    conv => rhs; whnf
noncomputable def fa_3_0 : Arguments := by
  refine (?f : (x : Arguments) → x = prmOf (inCls 0 (stm 3)) → Arguments) ?x ?h
  case f => exact fun x _ => x
  case h =>
    conv => rhs; whnf
noncomputable def fb_3_0 : List Stmt := by
  refine (?f : (x : List Stmt) → x = bdyOf (inCls 0 (stm 3)) → List Stmt) ?x ?h
  case f => exact fun x _ => x
  case h =>
    conv => rhs; whnf
noncomputable def fs_3_0 : Scope := by
  refine (?f : (x : Scope) → x = scpOf (inCls 0 (stm 3)) → Scope) ?x ?h
  case f => exact fun x _ => x
  case h =>
    conv => rhs; whnf
noncomputable def fa_3_1 : Arguments := by
  refine (?f : (x : Arguments) → x = prmOf (inCls 1 (stm 3)) → Arguments) ?x ?h
  case f => exact fun x _ => x
  case h =>
    conv => rhs; whnf
noncomputable def fb_3_1 : List Stmt := by
  refine (?f : (x : List Stmt) → x = bdyOf (inCls 1 (stm 3)) → List Stmt) ?x ?h
  case f => exact fun x _ => x
  case h =>
    conv => rhs; whnf
noncomputable def fs_3_1 : Scope := by
  refine (?f : (x : Scope) → x = scpOf (inCls 1 (stm 3)) → Scope) ?x ?h
  case f => exact fun x _ => x
  case h =>
    conv => rhs; whnf
noncomputable def fa_3_2 : Arguments := by
  refine (?f : (x : Arguments) → x = prmOf (inCls 2 (stm 3)) → Arguments) ?x ?h
  case f => exact fun x _ => x
  case h =>
    conv => rhs; whnf
noncomputable def fb_3_2 : List Stmt := by
  refine (?f : (x : List Stmt) → x = bdyOf (inCls 2 (stm 3)) → List Stmt) ?x ?h
  case f => exact fun x _ => x
  case h =>
    conv => rhs; whnf
noncomputable def fs_3_2 : Scope := by
  refine (?f : (x : Scope) → x = scpOf (inCls 2 (stm 3)) → Scope) ?x ?h
  case f => exact fun x _ => x
  case h =>
    conv => rhs; whnf
noncomputable def fa_3_3 : Arguments := by
  refine (?f : (x : Arguments) → x = prmOf (inCls 3 (stm 3)) → Arguments) ?x ?h
  case f => exact fun x _ => x
  case h =>
    conv => rhs; whnf
noncomputable def fb_3_3 : List Stmt := by
  refine (?f : (x : List Stmt) → x = bdyOf (inCls 3 (stm 3)) → List Stmt) ?x ?h
  case f => exact fun x _ => x
  case h =>
    conv => rhs; whnf
noncomputable def fs_3_3 : Scope := by
  refine (?f : (x : Scope) → x = scpOf (inCls 3 (stm 3)) → Scope) ?x ?h
  case f => exact fun x _ => x
  case h =>
    conv => rhs; whnf
noncomputable def fa_3_4 : Arguments := by
  refine (?f : (x : Arguments) → x = prmOf (inCls 4 (stm 3)) → Arguments) ?x ?h
  case f => exact fun x _ => x
  case h =>
    conv => rhs; whnf
noncomputable def fb_3_4 : List Stmt := by
  refine (?f : (x : List Stmt) → x = bdyOf (inCls 4 (stm 3)) → List Stmt) ?x ?h
  case f => exact fun x _ => x
  case h =>
    conv => rhs; whnf
noncomputable def fs_3_4 : Scope := by
  refine (?f : (x : Scope) → x = scpOf (inCls 4 (stm 3)) → Scope) ?x ?h
  case f => exact fun x _ => x
  case h =>
    conv => rhs; whnf
noncomputable def fa_3_5 : Arguments := by
  refine (?f : (x : Arguments) → x = prmOf (inCls 5 (stm 3)) → Arguments) ?x ?h
  case f => exact fun x _ => x
  case h =>
    conv => rhs; whnf
noncomputable def fb_3_5 : List Stmt := by
  refine (?f : (x : List Stmt) → x = bdyOf (inCls 5 (stm 3)) → List Stmt) ?x ?h
  case f => exact fun x _ => x
  case h =>
    conv => rhs; whnf
noncomputable def fs_3_5 : Scope := by
  refine (?f : (x : Scope) → x = scpOf (inCls 5 (stm 3)) → Scope) ?x ?h
  case f => exact fun x _ => x
  case h =>
    conv => rhs; whnf
noncomputable def fa_3_6 : Arguments := by
  refine (?f : (x : Arguments) → x = prmOf (inCls 6 (stm 3)) → Arguments) ?x ?h
  case f => exact fun x _ => x
  case h =>
    conv => rhs; whnf
noncomputable def fb_3_6 : List Stmt := by
  refine (?f : (x : List Stmt) → x = bdyOf (inCls 6 (stm 3)) → List Stmt) ?x ?h
  case f => exact fun x _ => x
  case h =>
    conv => rhs; whnf
noncomputable def fs_3_6 : Scope := by
  refine (?f : (x : Scope) → x = scpOf (inCls 6 (stm 3)) → Scope) ?x ?h
  case f => exact fun x _ => x
  case h =>
    conv => rhs; whnf
noncomputable def fa_3_7 : Arguments := by
  refine (?f : (x : Arguments) → x = prmOf (inCls 7 (stm 3)) → Arguments) ?x ?h
  case f => exact fun x _ => x
  case h =>
    conv => rhs; whnf
noncomputable def fb_3_7 : List Stmt := by
  refine (?f : (x : List Stmt) → x = bdyOf (inCls 7 (stm 3)) → List Stmt) ?x ?h
  case f => exact fun x _ => x
  case h =>
    conv => rhs; whnf
noncomputable def fs_3_7 : Scope := by
  refine (?f : (x : Scope) → x = scpOf (inCls 7 (stm 3)) → Scope) ?x ?h
  case f => exact fun x _ => x
  case h =>
    conv => rhs; whnf
noncomputable def fa_3_8 : Arguments := by
  refine (?f : (x : Arguments) → x = prmOf (inCls 8 (stm 3)) → Arguments) ?x ?h
  case f => exact fun x _ => x
  case h =>
    conv => rhs; whnf
noncomputable def fb_3_8 : List Stmt := by
  refine (?f : (x : List Stmt) → x = bdyOf (inCls 8 (stm 3)) → List Stmt) ?x ?h
  case f => exact fun x _ => x
  case h =>
    conv => rhs; whnf
noncomputable def fs_3_8 : Scope := by
  refine (?f : (x : Scope) → x = scpOf (inCls 8 (stm 3)) → Scope) ?x ?h
  case f => exact fun x _ => x
  case h =>
    conv => rhs; whnf
noncomputable def fa_8_13 : Arguments := by
  refine (?f : (x : Arguments) → x = prmOf (inCls 13 (stm 8)) → Arguments) ?x ?h
  case f => exact fun x _ => x
  case h =>
    conv => rhs; whnf
noncomputable def fb_8_13 : List Stmt := by
  refine (?f : (x : List Stmt) → x = bdyOf (inCls 13 (stm 8)) → List Stmt) ?x ?h
  case f => exact fun x _ => x
  case h =>
    conv => rhs; whnf
noncomputable def fs_8_13 : Scope := by
  refine (?f : (x : Scope) → x = scpOf (inCls 13 (stm 8)) → Scope) ?x ?h
  case f => exact fun x _ => x
  case h =>
    conv => rhs; whnf
noncomputable def fa_8_14 : Arguments := by
  refine (?f : (x : Arguments) → x = prmOf (inCls 14 (stm 8)) → Arguments) ?x ?h
  case f => exact fun x _ => x
  case h =>
    conv => rhs; whnf
noncomputable def fb_8_14 : List Stmt := by
  refine (?f : (x : List Stmt) → x = bdyOf (inCls 14 (stm 8)) → List Stmt) ?x ?h
  case f => exact fun x _ => x
  case h =>
    conv => rhs; whnf
noncomputable def fs_8_14 : Scope := by
  refine (?f : (x : Scope) → x = scpOf (inCls 14 (stm 8)) → Scope) ?x ?h
  case f => exact fun x _ => x
  case h =>
    conv => rhs; whnf
noncomputable def fa_8_15 : Arguments := by
  refine (?f : (x : Arguments) → x = prmOf (inCls 15 (stm 8)) → Arguments) ?x ?h
  case f => exact fun x _ => x
  case h =>
    conv => rhs; whnf
noncomputable def fb_8_15 : List Stmt := by
  refine (?f : (x : List Stmt) → x = bdyOf (inCls 15 (stm 8)) → List Stmt) ?x ?h
  case f => exact fun x _ => x
  case h =>
    conv => rhs; whnf
noncomputable def fs_8_15 : Scope := by
  refine (?f : (x : Scope) → x = scpOf (inCls 15 (stm 8)) → Scope) ?x ?h
  case f => exact fun x _ => x
  case h =>
    conv => rhs; whnf
noncomputable def fa_8_16 : Arguments := by
  refine (?f : (x : Arguments) → x = prmOf (inCls 16 (stm 8)) → Arguments) ?x ?h
  case f => exact fun x _ => x
  case h =>
    conv => rhs; whnf
noncomputable def fb_8_16 : List Stmt := by
  refine (?f : (x : List Stmt) → x = bdyOf (inCls 16 (stm 8)) → List Stmt) ?x ?h
  case f => exact fun x _ => x
  case h =>
    conv => rhs; whnf
noncomputable def fs_8_16 : Scope := by
  refine (?f : (x : Scope) → x = scpOf (inCls 16 (stm 8)) → Scope) ?x ?h
  case f => exact fun x _ => x
  case h =>
    conv => rhs; whnf
noncomputable def fa_8_17 : Arguments := by
  refine (?f : (x : Arguments) → x = prmOf (inCls 17 (stm 8)) → Arguments) ?x ?h
  case f => exact fun x _ => x
  case h =>
    conv => rhs; whnf
noncomputable def fb_8_17 : List Stmt := by
  refine (?f : (x : List Stmt) → x = bdyOf (inCls 17 (stm 8)) → List Stmt) ?x ?h
  case f => exact fun x _ => x
  case h =>
    conv => rhs; whnf
noncomputable def fs_8_17 : Scope := by
  refine (?f : (x : Scope) → x = scpOf (inCls 17 (stm 8)) → Scope) ?x ?h
  case f => exact fun x _ => x
  case h =>
    conv => rhs; whnf
noncomputable def fa_8_18 : Arguments := by
  refine (?f : (x : Arguments) → x = prmOf (inCls 18 (stm 8)) → Arguments) ?x ?h
  case f => exact fun x _ => x
  case h =>
    conv => rhs; whnf
noncomputable def fb_8_18 : List Stmt := by
  refine (?f : (x : List Stmt) → x = bdyOf (inCls 18 (stm 8)) → List Stmt) ?x ?h
  case f => exact fun x _ => x
  case h =>
    conv => rhs; whnf
noncomputable def fs_8_18 : Scope := by
  refine (?f : (x : Scope) → x = scpOf (inCls 18 (stm 8)) → Scope) ?x ?h
  case f => exact fun x _ => x
  case h =>
    conv => rhs; whnf
noncomputable def fa_8_19 : Arguments := by
  refine (?f : (x : Arguments) → x = prmOf (inCls 19 (stm 8)) → Arguments) ?x ?h
  case f => exact fun x _ => x
  case h =>
    conv => rhs; whnf
noncomputable def fb_8_19 : List Stmt := by
  refine (?f : (x : List Stmt) → x = bdyOf (inCls 19 (stm 8)) → List Stmt) ?x ?h
  case f => exact fun x _ => x
  case h =>
    conv => rhs; whnf
noncomputable def fs_8_19 : Scope := by
  refine (?f : (x : Scope) → x = scpOf (inCls 19 (stm 8)) → Scope) ?x ?h
  case f => exact fun x _ => x
  case h =>
    conv => rhs; whnf
noncomputable def fa_8_20 : Arguments := by
  refine (?f : (x : Arguments) → x = prmOf (inCls 20 (stm 8)) → Arguments) ?x ?h
  case f => exact fun x _ => x
  case h =>
    conv => rhs; whnf
noncomputable def fb_8_20 : List Stmt := by
  refine (?f : (x : List Stmt) → x = bdyOf (inCls 20 (stm 8)) → List Stmt) ?x ?h
  case f => exact fun x _ => x
  case h =>
    conv => rhs; whnf
noncomputable def fs_8_20 : Scope := by
  refine (?f : (x : Scope) → x = scpOf (inCls 20 (stm 8)) → Scope) ?x ?h
  case f => exact fun x _ => x
  case h =>
    conv => rhs; whnf
noncomputable def fa_10_0 : Arguments := by
  refine (?f : (x : Arguments) → x = prmOf (inCls 0 (stm 10)) → Arguments) ?x ?h
  case f => exact fun x _ => x
  case h =>
    conv => rhs; whnf
noncomputable def fb_10_0 : List Stmt := by
  refine (?f : (x : List Stmt) → x = bdyOf (inCls 0 (stm 10)) → List Stmt) ?x ?h
  case f => exact fun x _ => x
  case h =>
    conv => rhs; whnf
noncomputable def fs_10_0 : Scope := by
  refine (?f : (x : Scope) → x = scpOf (inCls 0 (stm 10)) → Scope) ?x ?h
  case f => exact fun x _ => x
  case h =>
    conv => rhs; whnf
noncomputable def fa_10_1 : Arguments := by
  refine (?f : (x : Arguments) → x = prmOf (inCls 1 (stm 10)) → Arguments) ?x ?h
  case f => exact fun x _ => x
  case h =>
    conv => rhs; whnf
noncomputable def fb_10_1 : List Stmt := by
  refine (?f : (x : List Stmt) → x = bdyOf (inCls 1 (stm 10)) → List Stmt) ?x ?h
  case f => exact fun x _ => x
  case h =>
    conv => rhs; whnf
noncomputable def fs_10_1 : Scope := by
  refine (?f : (x : Scope) → x = scpOf (inCls 1 (stm 10)) → Scope) ?x ?h
  case f => exact fun x _ => x
  case h =>
    conv => rhs; whnf
noncomputable def fa_10_2 : Arguments := by
  refine (?f : (x : Arguments) → x = prmOf (inCls 2 (stm 10)) → Arguments) ?x ?h
  case f => exact fun x _ => x
  case h =>
    conv => rhs; whnf
noncomputable def fb_10_2 : List Stmt := by
  refine (?f : (x : List Stmt) → x = bdyOf (inCls 2 (stm 10)) → List Stmt) ?x ?h
  case f => exact fun x _ => x
  case h =>
    conv => rhs; whnf
noncomputable def fs_10_2 : Scope := by
  refine (?f : (x : Scope) → x = scpOf (inCls 2 (stm 10)) → Scope) ?x ?h
  case f => exact fun x _ => x
  case h =>
    conv => rhs; whnf
noncomputable def fa_10_3 : Arguments := by
  refine (?f : (x : Arguments) → x = prmOf (inCls 3 (stm 10)) → Arguments) ?x ?h
  case f => exact fun x _ => x
  case h =>
    conv => rhs; whnf
noncomputable def fb_10_3 : List Stmt := by
  refine (?f : (x : List Stmt) → x = bdyOf (inCls 3 (stm 10)) → List Stmt) ?x ?h
  case f => exact fun x _ => x
  case h =>
    conv => rhs; whnf
noncomputable def fs_10_3 : Scope := by
  refine (?f : (x : Scope) → x = scpOf (inCls 3 (stm 10)) → Scope) ?x ?h
  case f => exact fun x _ => x
  case h =>
    conv => rhs; whnf
noncomputable def fa_10_4 : Arguments := by
  refine (?f : (x : Arguments) → x = prmOf (inCls 4 (stm 10)) → Arguments) ?x ?h
  case f => exact fun x _ => x
  case h =>
    conv => rhs; whnf
noncomputable def fb_10_4 : List Stmt := by
  refine (?f : (x : List Stmt) → x = bdyOf (inCls 4 (stm 10)) → List Stmt) ?x ?h
  case f => exact fun x _ => x
  case h =>
    conv => rhs; whnf
noncomputable def fs_10_4 : Scope := by
  refine (?f : (x : Scope) → x = scpOf (inCls 4 (stm 10)) → Scope) ?x ?h
  case f => exact fun x _ => x
  case h =>
    conv => rhs; whnf
noncomputable def fa_10_5 : Arguments := by
  refine (?f : (x : Arguments) → x = prmOf (inCls 5 (stm 10)) → Arguments) ?x ?h
  case f => exact fun x _ => x
  case h =>
    conv => rhs; whnf
noncomputable def fb_10_5 : List Stmt := by
  refine (?f : (x : List Stmt) → x = bdyOf (inCls 5 (stm 10)) → List Stmt) ?x ?h
  case f => exact fun x _ => x
  case h =>
    conv => rhs; whnf
noncomputable def fs_10_5 : Scope := by
  refine (?f : (x : Scope) → x = scpOf (inCls 5 (stm 10)) → Scope) ?x ?h
  case f => exact fun x _ => x
  case h =>
    conv => rhs; whnf
noncomputable def fa_10_6 : Arguments := by
  refine (?f : (x : Arguments) → x = prmOf (inCls 6 (stm 10)) → Arguments) ?x ?h
  case f => exact fun x _ => x
  case h =>
    conv => rhs; whnf
noncomputable def fb_10_6 : List Stmt := by
  refine (?f : (x : List Stmt) → x = bdyOf (inCls 6 (stm 10)) → List Stmt) ?x ?h
  case f => exact fun x _ => x
  case h =>
    conv => rhs; whnf
noncomputable def fs_10_6 : Scope := by
  refine (?f : (x : Scope) → x = scpOf (inCls 6 (stm 10)) → Scope) ?x ?h
  case f => exact fun x _ => x
  case h =>
    conv => rhs; whnf
noncomputable def fa_10_7 : Arguments := by
  refine (?f : (x : Arguments) → x = prmOf (inCls 7 (stm 10)) → Arguments) ?x ?h
  case f => exact fun x _ => x
  case h =>
    conv => rhs; whnf
noncomputable def fb_10_7 : List Stmt := by
  refine (?f : (x : List Stmt) → x = bdyOf (inCls 7 (stm 10)) → List Stmt) ?x ?h
  case f => exact fun x _ => x
  case h =>
    conv => rhs; whnf
noncomputable def fs_10_7 : Scope := by
  refine (?f : (x : Scope) → x = scpOf (inCls 7 (stm 10)) → Scope) ?x ?h
  case f => exact fun x _ => x
  case h =>
    conv => rhs; whnf
noncomputable def fa_10_8 : Arguments := by
  refine (?f : (x : Arguments) → x = prmOf (inCls 8 (stm 10)) → Arguments) ?x ?h
  case f => exact fun x _ => x
  case h =>
    conv => rhs; whnf
noncomputable def fb_10_8 : List Stmt := by
  refine (?f : (x : List Stmt) → x = bdyOf (inCls 8 (stm 10)) → List Stmt) ?x ?h
  case f => exact fun x _ => x
  case h =>
    conv => rhs; whnf
noncomputable def fs_10_8 : Scope := by
  refine (?f : (x : Scope) → x = scpOf (inCls 8 (stm 10)) → Scope) ?x ?h
  case f => exact fun x _ => x
  case h =>
    conv => rhs; whnf
noncomputable def fa_11 : Arguments := by
  refine (?f : (x : Arguments) → x = prmOf (stm 11) → Arguments) ?x ?h
  case f => exact fun x _ => x
  case h =>
    conv => rhs; whnf
noncomputable def fb_11 : List Stmt := by
  refine (?f : (x : List Stmt) → x = bdyOf (stm 11) → List Stmt) ?x ?h
  case f => exact fun x _ => x
  case h =>
    conv => rhs; whnf
noncomputable def fs_11 : Scope := by
  refine (?f : (x : Scope) → x = scpOf (stm 11) → Scope) ?x ?h
  case f => exact fun x _ => x
  case h =>
    conv => rhs; whnf
noncomputable def fa_12 : Arguments := by
  refine (?f : (x : Arguments) → x = prmOf (stm 12) → Arguments) ?x ?h
  case f => exact fun x _ => x
  case h =>
    conv => rhs; whnf
noncomputable def fb_12 : List Stmt := by
  refine (?f : (x : List Stmt) → x = bdyOf (stm 12) → List Stmt) ?x ?h
  case f => exact fun x _ => x
  case h =>
    conv => rhs; whnf
noncomputable def fs_12 : Scope := by
  refine (?f : (x : Scope) → x = scpOf (stm 12) → Scope) ?x ?h
  case f => exact fun x _ => x
  case h =>
    conv => rhs; whnf
noncomputable def fa_13 : Arguments := by
  refine (?f : (x : Arguments) → x = prmOf (stm 13) → Arguments) ?x ?h
  case f => exact fun x _ => x
  case h =>
    conv => rhs; whnf
noncomputable def fb_13 : List Stmt := by
  refine (?f : (x : List Stmt) → x = bdyOf (stm 13) → List Stmt) ?x ?h
  case f => exact fun x _ => x
  case h =>
    conv => rhs; whnf
noncomputable def fs_13 : Scope := by
  refine (?f : (x : Scope) → x = scpOf (stm 13) → Scope) ?x ?h
  case f => exact fun x _ => x
  case h =>
    conv => rhs; whnf
noncomputable def fa_14 : Arguments := by
  refine (?f : (x : Arguments) → x = prmOf (stm 14) → Arguments) ?x ?h
  case f => exact fun x _ => x
  case h =>
    conv => rhs; whnf
noncomputable def fb_14 : List Stmt := by
  refine (?f : (x : List Stmt) → x = bdyOf (stm 14) → List Stmt) ?x ?h
  case f => exact fun x _ => x
  case h =>
    conv => rhs; whnf
noncomputable def fs_14 : Scope := by
  refine (?f : (x : Scope) → x = scpOf (stm 14) → Scope) ?x ?h
  case f => exact fun x _ => x
  case h =>
    conv => rhs; whnf
noncomputable def fa_15 : Arguments := by
  refine (?f : (x : Arguments) → x = prmOf (stm 15) → Arguments) ?x ?h
  case f => exact fun x _ => x
  case h =>
    conv => rhs; whnf
noncomputable def fb_15 : List Stmt := by
  refine (?f : (x : List Stmt) → x = bdyOf (stm 15) → List Stmt) ?x ?h
  case f => exact fun x _ => x
  case h =>
    conv => rhs; whnf
noncomputable def fs_15 : Scope := by
  refine (?f : (x : Scope) → x = scpOf (stm 15) → Scope) ?x ?h
  case f => exact fun x _ => x
  case h =>
    conv => rhs; whnf
noncomputable def fa_17 : Arguments := by
  refine (?f : (x : Arguments) → x = prmOf (stm 17) → Arguments) ?x ?h
  case f => exact fun x _ => x
  case h =>
    conv => rhs; whnf
noncomputable def fb_17 : List Stmt := by
  refine (?f : (x : List Stmt) → x = bdyOf (stm 17) → List Stmt) ?x ?h
  case f => exact fun x _ => x
  case h =>
    conv => rhs; whnf
noncomputable def fs_17 : Scope := by
  refine (?f : (x : Scope) → x = scpOf (stm 17) → Scope) ?x ?h
  case f => exact fun x _ => x
  case h =>
    conv => rhs; whnf
noncomputable def fa_18 : Arguments := by
  refine (?f : (x : Arguments) → x = prmOf (stm 18) → Arguments) ?x ?h
  case f => exact fun x _ => x
  case h =>
    conv => rhs; whnf
noncomputable def fb_18 : List Stmt := by
  refine (?f : (x : List Stmt) → x = bdyOf (stm 18) → List Stmt) ?x ?h
  case f => exact fun x _ => x
  case h =>
    conv => rhs; whnf
noncomputable def fs_18 : Scope := by
  refine (?f : (x : Scope) → x = scpOf (stm 18) → Scope) ?x ?h
  case f => exact fun x _ => x
  case h =>
    conv => rhs; whnf
noncomputable def fa_20 : Arguments := by
  refine (?f : (x : Arguments) → x = prmOf (stm 20) → Arguments) ?x ?h
  case f => exact fun x _ => x
  case h =>
    conv => rhs; whnf
noncomputable def fb_20 : List Stmt := by
  refine (?f : (x : List Stmt) → x = bdyOf (stm 20) → List Stmt) ?x ?h
  case f => exact fun x _ => x
  case h =>
    conv => rhs; whnf
noncomputable def fs_20 : Scope := by
  refine (?f : (x : Scope) → x = scpOf (stm 20) → Scope) ?x ?h
  case f => exact fun x _ => x
  case h =>
    conv => rhs; whnf
noncomputable def fa_21 : Arguments := by
  refine (?f : (x : Arguments) → x = prmOf (stm 21) → Arguments) ?x ?h
  case f => exact fun x _ => x
  case h =>
    conv => rhs; whnf
noncomputable def fb_21 : List Stmt := by
  refine (?f : (x : List Stmt) → x = bdyOf (stm 21) → List Stmt) ?x ?h
  case f => exact fun x _ => x
  case h =>
    conv => rhs; whnf
noncomputable def fs_21 : Scope := by
  refine (?f : (x : Scope) → x = scpOf (stm 21) → Scope) ?x ?h
  case f => exact fun x _ => x
  case h =>
    conv => rhs; whnf
noncomputable def fa_22_0 : Arguments := by
  refine (?f : (x : Arguments) → x = prmOf (inCls 0 (stm 22)) → Arguments) ?x ?h
  case f => exact fun x _ => x
  case h =>
    conv => rhs; whnf
noncomputable def fb_22_0 : List Stmt := by
  refine (?f : (x : List Stmt) → x = bdyOf (inCls 0 (stm 22)) → List Stmt) ?x ?h
  case f => exact fun x _ => x
  case h =>
    conv => rhs; whnf
noncomputable def fs_22_0 : Scope := by
  refine (?f : (x : Scope) → x = scpOf (inCls 0 (stm 22)) → Scope) ?x ?h
  case f => exact fun x _ => x
  case h =>
    conv => rhs; whnf
noncomputable def fa_22_1 : Arguments := by
  refine (?f : (x : Arguments) → x = prmOf (inCls 1 (stm 22)) → Arguments) ?x ?h
  case f => exact fun x _ => x
  case h =>
    conv => rhs; whnf
noncomputable def fb_22_1 : List Stmt := by
  refine (?f : (x : List Stmt) → x = bdyOf (inCls 1 (stm 22)) → List Stmt) ?x ?h
  case f => exact fun x _ => x
  case h =>
    conv => rhs; whnf
noncomputable def fs_22_1 : Scope := by
  refine (?f : (x : Scope) → x = scpOf (inCls 1 (stm 22)) → Scope) ?x ?h
  case f => exact fun x _ => x
  case h =>
    conv => rhs; whnf
noncomputable def fa_22_2 : Arguments := by
  refine (?f : (x : Arguments) → x = prmOf (inCls 2 (stm 22)) → Arguments) ?x ?h
  case f => exact fun x _ => x
  case h =>
    conv => rhs; whnf
noncomputable def fb_22_2 : List Stmt := by
  refine (?f : (x : List Stmt) → x = bdyOf (inCls 2 (stm 22)) → List Stmt) ?x ?h
  case f => exact fun x _ => x
  case h =>
    conv => rhs; whnf
noncomputable def fs_22_2 : Scope := by
  refine (?f : (x : Scope) → x = scpOf (inCls 2 (stm 22)) → Scope) ?x ?h
  case f => exact fun x _ => x
  case h =>
    conv => rhs; whnf
noncomputable def fa_22_3 : Arguments := by
  refine (?f : (x : Arguments) → x = prmOf (inCls 3 (stm 22)) → Arguments) ?x ?h
  case f => exact fun x _ => x
  case h =>
    conv => rhs; whnf
noncomputable def fb_22_3 : List Stmt := by
  refine (?f : (x : List Stmt) → x = bdyOf (inCls 3 (stm 22)) → List Stmt) ?x ?h
  case f => exact fun x _ => x
  case h =>
    conv => rhs; whnf
noncomputable def fs_22_3 : Scope := by
  refine (?f : (x : Scope) → x = scpOf (inCls 3 (stm 22)) → Scope) ?x ?h
  case f => exact fun x _ => x
  case h =>
    conv => rhs; whnf
noncomputable def fa_22_4 : Arguments := by
  refine (?f : (x : Arguments) → x = prmOf (inCls 4 (stm 22)) → Arguments) ?x ?h
  case f => exact fun x _ => x
  case h =>
    conv => rhs; whnf
noncomputable def fb_22_4 : List Stmt := by
  refine (?f : (x : List Stmt) → x = bdyOf (inCls 4 (stm 22)) → List Stmt) ?x ?h
  case f => exact fun x _ => x
  case h =>
    conv => rhs; whnf
noncomputable def fs_22_4 : Scope := by
  refine (?f : (x : Scope) → x = scpOf (inCls 4 (stm 22)) → Scope) ?x ?h
  case f => exact fun x _ => x
  case h =>
    conv => rhs; whnf
noncomputable def fa_22_5 : Arguments := by
  refine (?f : (x : Arguments) → x = prmOf (inCls 5 (stm 22)) → Arguments) ?x ?h
  case f => exact fun x _ => x
  case h =>
    conv => rhs; whnf
noncomputable def fb_22_5 : List Stmt := by
  refine (?f : (x : List Stmt) → x = bdyOf (inCls 5 (stm 22)) → List Stmt) ?x ?h
  case f => exact fun x _ => x
  case h =>
    conv => rhs; whnf
noncomputable def fs_22_5 : Scope := by
  refine (?f : (x : Scope) → x = scpOf (inCls 5 (stm 22)) → Scope) ?x ?h
  case f => exact fun x _ => x
  case h =>
    conv => rhs; whnf
noncomputable def fa_22_6 : Arguments := by
  refine (?f : (x : Arguments) → x = prmOf (inCls 6 (stm 22)) → Arguments) ?x ?h
  case f => exact fun x _ => x
  case h =>
    conv => rhs; whnf
noncomputable def fb_22_6 : List Stmt := by
  refine (?f : (x : List Stmt) → x = bdyOf (inCls 6 (stm 22)) → List Stmt) ?x ?h
  case f => exact fun x _ => x
  case h =>
    conv => rhs; whnf
noncomputable def fs_22_6 : Scope := by
  refine (?f : (x : Scope) → x = scpOf (inCls 6 (stm 22)) → Scope) ?x ?h
  case f => exact fun x _ => x
  case h =>
    conv => rhs; whnf
noncomputable def fa_24 : Arguments := by
  refine (?f : (x : Arguments) → x = prmOf (stm 24) → Arguments) ?x ?h
  case f => exact fun x _ => x
  case h =>
    conv => rhs; whnf
noncomputable def fb_24 : List Stmt := by
  refine (?f : (x : List Stmt) → x = bdyOf (stm 24) → List Stmt) ?x ?h
  case f => exact fun x _ => x
  case h =>
    conv => rhs; whnf
noncomputable def fs_24 : Scope := by
  refine (?f : (x : Scope) → x = scpOf (stm 24) → Scope) ?x ?h
  case f => exact fun x _ => x
  case h =>
    conv => rhs; whnf
noncomputable def fa_25 : Arguments := by
  refine (?f : (x : Arguments) → x = prmOf (stm 25) → Arguments) ?x ?h
  case f => exact fun x _ => x
  case h =>
    conv => rhs; whnf
noncomputable def fb_25 : List Stmt := by
  refine (?f : (x : List Stmt) → x = bdyOf (stm 25) → List Stmt) ?x ?h
  case f => exact fun x _ => x
  case h =>
    conv => rhs; whnf
noncomputable def fs_25 : Scope := by
  refine (?f : (x : Scope) → x = scpOf (stm 25) → Scope) ?x ?h
  case f => exact fun x _ => x
  case h =>
    conv => rhs; whnf
noncomputable def fa_28 : Arguments := by
  refine (?f : (x : Arguments) → x = prmOf (stm 28) → Arguments) ?x ?h
  case f => exact fun x _ => x
  case h =>
    conv => rhs; whnf
noncomputable def fb_28 : List Stmt := by
  refine (?f : (x : List Stmt) → x = bdyOf (stm 28) → List Stmt) ?x ?h
  case f => exact fun x _ => x
  case h =>
    conv => rhs; whnf
noncomputable def fs_28 : Scope := by
  refine (?f : (x : Scope) → x = scpOf (stm 28) → Scope) ?x ?h
  case f => exact fun x _ => x
  case h =>
    conv => rhs; whnf
noncomputable def fa_29 : Arguments := by
  refine (?f : (x : Arguments) → x = prmOf (stm 29) → Arguments) ?x ?h
  case f => exact fun x _ => x
  case h =>
    conv => rhs; whnf
noncomputable def fb_29 : List Stmt := by
  refine (?f : (x : List Stmt) → x = bdyOf (stm 29) → List Stmt) ?x ?h
  case f => exact fun x _ => x
  case h =>
    conv => rhs; whnf
noncomputable def fs_29 : Scope := by
  refine (?f : (x : Scope) → x = scpOf (stm 29) → Scope) ?x ?h
  case f => exact fun x _ => x
  case h =>
    conv => rhs; whnf
noncomputable def fa_30 : Arguments := by
  refine (?f : (x : Arguments) → x = prmOf (stm 30) → Arguments) ?x ?h
  case f => exact fun x _ => x
  case h =>
    conv => rhs; whnf
noncomputable def fb_30 : List Stmt := by
  refine (?f : (x : List Stmt) → x = bdyOf (stm 30) → List Stmt) ?x ?h
  case f => exact fun x _ => x
  case h =>
    conv => rhs; whnf
noncomputable def fs_30 : Scope := by
  refine (?f : (x : Scope) → x = scpOf (stm 30) → Scope) ?x ?h
  case f => exact fun x _ => x
  case h =>
    conv => rhs; whnf
noncomputable def fa_31 : Arguments := by
  refine (?f : (x : Arguments) → x = prmOf (stm 31) → Arguments) ?x ?h
  case f => exact fun x _ => x
  case h =>
    conv => rhs; whnf
noncomputable def fb_31 : List Stmt := by
  refine (?f : (x : List Stmt) → x = bdyOf (stm 31) → List Stmt) ?x ?h
  case f => exact fun x _ => x
  case h =>
    conv => rhs; whnf
noncomputable def fs_31 : Scope := by
  refine (?f : (x : Scope) → x = scpOf (stm 31) → Scope) ?x ?h
  case f => exact fun x _ => x
  case h =>
    conv => rhs; whnf
noncomputable def KRaw : Params → Frag := fun P =>
  (nat_lit 2, { cls := Value.none, data := Data.dict #[] }) ::
  (nat_lit 3, { cls := Value.type "dict", data := Data.dict (List.toArray ({ hash := PyData.keyHash P (Str.ofString "__name__"), key := Value.str (Str.ofString "__name__") 165, val := Value.str (Str.ofString "law_jv0049_01") 799 } :: { hash := PyData.keyHash P (Str.ofString "__doc__"), key := Value.str (Str.ofString "__doc__") 166, val := Value.none } :: { hash := PyData.keyHash P (Str.ofString "__package__"), key := Value.str (Str.ofString "__package__") 167, val := Value.none } :: { hash := PyData.keyHash P (Str.ofString "__loader__"), key := Value.str (Str.ofString "__loader__") 168, val := Value.builtin "__main__.__loader__#opaque" } :: { hash := PyData.keyHash P (Str.ofString "__spec__"), key := Value.str (Str.ofString "__spec__") 169, val := Value.none } :: { hash := PyData.keyHash P (Str.ofString "__annotations__"), key := Value.str (Str.ofString "__annotations__") 170, val := Value.ref 6 } :: { hash := PyData.keyHash P (Str.ofString "__builtins__"), key := Value.str (Str.ofString "__builtins__") 171, val := Value.ref 4 } :: { hash := PyData.keyHash P (Str.ofString "__file__"), key := Value.str (Str.ofString "__file__") 173, val := Value.str (Str.ofString "/claim/cut.py") 172 } :: { hash := PyData.keyHash P (Str.ofString "__cached__"), key := Value.str (Str.ofString "__cached__") 174, val := Value.none } :: { hash := PyData.keyHash P (Str.ofString "_wall"), key := Value.str (Str.ofString "_wall") 193, val := Value.ref 21 } :: { hash := PyData.keyHash P (Str.ofString "Link"), key := Value.str (Str.ofString "Link") 225, val := Value.ref 38 } :: { hash := PyData.keyHash P (Str.ofString "OrderedSet"), key := Value.str (Str.ofString "OrderedSet") 327, val := Value.ref 117 } :: { hash := PyData.keyHash P (Str.ofString "_UNRESERVED_CHARACTERS"), key := Value.str (Str.ofString "_UNRESERVED_CHARACTERS") 331, val := Value.str (Str.ofString "abcdefghijklmnopqrstuvwxyzABCDEFGHIJKLMNOPQRSTUVWXYZ0123456789~-_.") 330 } :: { hash := PyData.keyHash P (Str.ofString "_RESERVED_CHARACTERS"), key := Value.str (Str.ofString "_RESERVED_CHARACTERS") 333, val := Value.str (Str.ofString ":/?#[]@!$&'()*+,;=") 332 } :: { hash := PyData.keyHash P (Str.ofString "_HEX_DIGITS"), key := Value.str (Str.ofString "_HEX_DIGITS") 335, val := Value.str (Str.ofString "0123456789ABCDEFabcdef") 334 } :: { hash := PyData.keyHash P (Str.ofString "Operator"), key := Value.str (Str.ofString "Operator") 454, val := Value.ref 190 } :: { hash := PyData.keyHash P (Str.ofString "_operators"), key := Value.str (Str.ofString "_operators") 491, val := Value.ref 195 } :: { hash := PyData.keyHash P (Str.ofString "URIVariable"), key := Value.str (Str.ofString "URIVariable") 612, val := Value.ref 265 } :: { hash := PyData.keyHash P (Str.ofString "is_list_of_tuples"), key := Value.str (Str.ofString "is_list_of_tuples") 619, val := Value.ref 276 } :: { hash := PyData.keyHash P (Str.ofString "list_test"), key := Value.str (Str.ofString "list_test") 626, val := Value.ref 283 } :: { hash := PyData.keyHash P (Str.ofString "dict_test"), key := Value.str (Str.ofString "dict_test") 633, val := Value.ref 290 } :: { hash := PyData.keyHash P (Str.ofString "_encode"), key := Value.str (Str.ofString "_encode") 640, val := Value.ref 297 } :: { hash := PyData.keyHash P (Str.ofString "quote"), key := Value.str (Str.ofString "quote") 648, val := Value.ref 304 } :: { hash := PyData.keyHash P (Str.ofString "quote_variable"), key := Value.str (Str.ofString "quote_variable") 649, val := Value.ref 304 } :: { hash := PyData.keyHash P (Str.ofString "quote_from_bytes"), key := Value.str (Str.ofString "quote_from_bytes") 660, val := Value.ref 311 } :: { hash := PyData.keyHash P (Str.ofString "_holds_triplet"), key := Value.str (Str.ofString "_holds_triplet") 668, val := Value.ref 318 } :: { hash := PyData.keyHash P (Str.ofString "_expressions"), key := Value.str (Str.ofString "_expressions") 681, val := Value.ref 325 } :: { hash := PyData.keyHash P (Str.ofString "_merge"), key := Value.str (Str.ofString "_merge") 690, val := Value.ref 332 } :: { hash := PyData.keyHash P (Str.ofString "URITemplate"), key := Value.str (Str.ofString "URITemplate") 778, val := Value.ref 391 } :: { hash := PyData.keyHash P (Str.ofString "expand"), key := Value.str (Str.ofString "expand") 789, val := Value.ref 403 } :: { hash := PyData.keyHash P (Str.ofString "partial"), key := Value.str (Str.ofString "partial") 798, val := Value.ref 411 } :: { hash := PyData.keyHash P (Str.ofString "_law_names"), key := Value.str (Str.ofString "_law_names") 805, val := Value.ref 412 } :: { hash := PyData.keyHash P (Str.ofString "_law_literals"), key := Value.str (Str.ofString "_law_literals") 811, val := Value.ref 419 } :: { hash := PyData.keyHash P (Str.ofString "_law_dicts"), key := Value.str (Str.ofString "_law_dicts") 821, val := Value.ref 426 } :: { hash := PyData.keyHash P (Str.ofString "_law_due"), key := Value.str (Str.ofString "_law_due") 834, val := Value.ref 433 } :: { hash := PyData.keyHash P (Str.ofString "law"), key := Value.str (Str.ofString "law") 840, val := Value.ref 438 } :: [])) 36 }) ::
  (nat_lit 15, { cls := Value.type "tuple", data := Data.seq #[] }) ::
  (nat_lit 17, { cls := Value.type "tuple", data := Data.seq (List.toArray ((Value.str (Str.ofString "k") 190) :: [])) }) ::
  (nat_lit 18, { cls := Value.type "tuple", data := Data.seq #[] }) ::
  (nat_lit 20, { cls := Value.type "code", data := Data.fields (List.toArray ((Value.str (Str.ofString "_wall") 187) :: (Value.str (Str.ofString "_wall") 188) :: (Value.str (Str.ofString "/claim/cut.py") 189) :: (Value.int 1 0) :: (Value.int 1 0) :: (Value.int 0 0) :: (Value.int 0 0) :: (Value.int 3 0) :: (Value.ref 15) :: (Value.bool true) :: (Value.int 181 0) :: (Value.ref 16) :: (Value.none) :: (Value.ref 17) :: (Value.ref 18) :: (Value.ref 19) :: (Value.int 191 0) :: (Value.int 1 0) :: (Value.str (Str.ofString "/claim/cut.py") 192) :: [])) }) ::
  (nat_lit 21, { cls := Value.type "function", data := Data.func { name := Str.ofString "_wall", qualname := Str.ofString "_wall", params := fa_0, body := FuncBody.stmts fb_0, scope := fs_0, globals := 3, closure := [], defaults := Value.none, kwdefaults := Value.none, pyModule := Value.str (Str.ofString "__main__") 164, code := Value.ref 20 } }) ::
  (nat_lit 29, { cls := Value.type "tuple", data := Data.seq #[] }) ::
  (nat_lit 31, { cls := Value.type "tuple", data := Data.seq (List.toArray ((Value.str (Str.ofString "self") 211) :: [])) }) ::
  (nat_lit 32, { cls := Value.type "tuple", data := Data.seq #[] }) ::
  (nat_lit 34, { cls := Value.type "code", data := Data.fields (List.toArray ((Value.str (Str.ofString "__init__") 208) :: (Value.str (Str.ofString "Link.__init__") 209) :: (Value.str (Str.ofString "/claim/cut.py") 210) :: (Value.int 7 0) :: (Value.int 1 0) :: (Value.int 0 0) :: (Value.int 0 0) :: (Value.int 3 0) :: (Value.ref 29) :: (Value.bool true) :: (Value.int 181 0) :: (Value.ref 30) :: (Value.none) :: (Value.ref 31) :: (Value.ref 32) :: (Value.ref 33) :: (Value.int 212 0) :: (Value.int 7 0) :: (Value.str (Str.ofString "/claim/cut.py") 213) :: [])) }) ::
  (nat_lit 35, { cls := Value.type "function", data := Data.func { name := Str.ofString "__init__", qualname := Str.ofString "Link.__init__", params := fa_2_0, body := FuncBody.stmts fb_2_0, scope := fs_2_0, globals := 3, closure := [], defaults := Value.none, kwdefaults := Value.none, pyModule := Value.str (Str.ofString "uritemplate.orderedset") 194, code := Value.ref 34 } }) ::
  (nat_lit 36, { cls := Value.type "tuple", data := Data.seq (List.toArray ((Value.str (Str.ofString "key") 215) :: (Value.str (Str.ofString "next") 216) :: (Value.str (Str.ofString "prev") 217) :: [])) }) ::
  (nat_lit 37, { cls := Value.type "dict", data := Data.dict (List.toArray ({ hash := PyData.keyHash P (Str.ofString "__module__"), key := Value.str (Str.ofString "__module__") 203, val := Value.str (Str.ofString "uritemplate.orderedset") 194 } :: { hash := PyData.keyHash P (Str.ofString "__firstlineno__"), key := Value.str (Str.ofString "__firstlineno__") 207, val := Value.int 5 206 } :: { hash := PyData.keyHash P (Str.ofString "__init__"), key := Value.str (Str.ofString "__init__") 214, val := Value.ref 35 } :: { hash := PyData.keyHash P (Str.ofString "__static_attributes__"), key := Value.str (Str.ofString "__static_attributes__") 218, val := Value.ref 36 } :: { hash := PyData.keyHash P (Str.ofString "__dict__"), key := Value.str (Str.ofString "__dict__") 220, val := Value.ref 39 } :: { hash := PyData.keyHash P (Str.ofString "__weakref__"), key := Value.str (Str.ofString "__weakref__") 222, val := Value.ref 40 } :: { hash := PyData.keyHash P (Str.ofString "__doc__"), key := Value.str (Str.ofString "__doc__") 223, val := Value.none } :: [])) 4 }) ::
  (nat_lit 38, { cls := Value.type "type", data := Data.cls { name := Str.ofString "Link", bases := [Value.type "object"], mro := [Value.ref 38, Value.type "object"], ns := 37, qualname := Str.ofString "Link" }, slots := (List.toArray ((none) :: (none) :: (some (Value.str (Str.ofString "Link") 196)) :: (some (Value.str (Str.ofString "Link") 204)) :: (some (Value.builtin "object.__new__")) :: (some (Value.bool true)) :: [])) }) ::
  (nat_lit 39, { cls := Value.type "getset_descriptor", data := Data.fields (List.toArray ((Value.str (Str.ofString "__dict__") 219) :: (Value.ref 38) :: (Value.builtin "function.__dict__") :: (Value.builtin "function.__dict__#set") :: [])) }) ::
  (nat_lit 40, { cls := Value.type "getset_descriptor", data := Data.fields (List.toArray ((Value.str (Str.ofString "__weakref__") 221) :: (Value.ref 38) :: (Value.builtin "ExceptionGroup.__weakref__") :: (Value.none) :: [])) }) ::
  (nat_lit 50, { cls := Value.type "tuple", data := Data.seq (List.toArray ((Value.none) :: [])) }) ::
  (nat_lit 51, { cls := Value.type "tuple", data := Data.seq #[] }) ::
  (nat_lit 53, { cls := Value.type "tuple", data := Data.seq (List.toArray ((Value.str (Str.ofString "self") 241) :: (Value.str (Str.ofString "iterable") 242) :: (Value.str (Str.ofString "root") 243) :: (Value.str (Str.ofString "key") 244) :: [])) }) ::
  (nat_lit 54, { cls := Value.type "tuple", data := Data.seq #[] }) ::
  (nat_lit 56, { cls := Value.type "code", data := Data.fields (List.toArray ((Value.str (Str.ofString "__init__") 238) :: (Value.str (Str.ofString "OrderedSet.__init__") 239) :: (Value.str (Str.ofString "/claim/cut.py") 240) :: (Value.int 13 0) :: (Value.int 2 0) :: (Value.int 0 0) :: (Value.int 0 0) :: (Value.int 3 0) :: (Value.ref 51) :: (Value.bool true) :: (Value.int 181 0) :: (Value.ref 52) :: (Value.none) :: (Value.ref 53) :: (Value.ref 54) :: (Value.ref 55) :: (Value.int 245 0) :: (Value.int 13 0) :: (Value.str (Str.ofString "/claim/cut.py") 246) :: [])) }) ::
  (nat_lit 57, { cls := Value.type "function", data := Data.func { name := Str.ofString "__init__", qualname := Str.ofString "OrderedSet.__init__", params := fa_3_0, body := FuncBody.stmts fb_3_0, scope := fs_3_0, globals := 3, closure := [], defaults := Value.ref 50, kwdefaults := Value.none, pyModule := Value.str (Str.ofString "uritemplate.orderedset") 194, code := Value.ref 56 } }) ::
  (nat_lit 58, { cls := Value.type "tuple", data := Data.seq #[] }) ::
  (nat_lit 60, { cls := Value.type "tuple", data := Data.seq (List.toArray ((Value.str (Str.ofString "self") 251) :: [])) }) ::
  (nat_lit 61, { cls := Value.type "tuple", data := Data.seq #[] }) ::
  (nat_lit 63, { cls := Value.type "code", data := Data.fields (List.toArray ((Value.str (Str.ofString "__len__") 248) :: (Value.str (Str.ofString "OrderedSet.__len__") 249) :: (Value.str (Str.ofString "/claim/cut.py") 250) :: (Value.int 21 0) :: (Value.int 1 0) :: (Value.int 0 0) :: (Value.int 0 0) :: (Value.int 3 0) :: (Value.ref 58) :: (Value.bool true) :: (Value.int 181 0) :: (Value.ref 59) :: (Value.none) :: (Value.ref 60) :: (Value.ref 61) :: (Value.ref 62) :: (Value.int 252 0) :: (Value.int 21 0) :: (Value.str (Str.ofString "/claim/cut.py") 253) :: [])) }) ::
  (nat_lit 64, { cls := Value.type "function", data := Data.func { name := Str.ofString "__len__", qualname := Str.ofString "OrderedSet.__len__", params := fa_3_1, body := FuncBody.stmts fb_3_1, scope := fs_3_1, globals := 3, closure := [], defaults := Value.none, kwdefaults := Value.none, pyModule := Value.str (Str.ofString "uritemplate.orderedset") 194, code := Value.ref 63 } }) ::
  (nat_lit 65, { cls := Value.type "tuple", data := Data.seq #[] }) ::
  (nat_lit 67, { cls := Value.type "tuple", data := Data.seq (List.toArray ((Value.str (Str.ofString "self") 258) :: (Value.str (Str.ofString "key") 259) :: [])) }) ::
  (nat_lit 68, { cls := Value.type "tuple", data := Data.seq #[] }) ::
  (nat_lit 70, { cls := Value.type "code", data := Data.fields (List.toArray ((Value.str (Str.ofString "__contains__") 255) :: (Value.str (Str.ofString "OrderedSet.__contains__") 256) :: (Value.str (Str.ofString "/claim/cut.py") 257) :: (Value.int 24 0) :: (Value.int 2 0) :: (Value.int 0 0) :: (Value.int 0 0) :: (Value.int 3 0) :: (Value.ref 65) :: (Value.bool true) :: (Value.int 181 0) :: (Value.ref 66) :: (Value.none) :: (Value.ref 67) :: (Value.ref 68) :: (Value.ref 69) :: (Value.int 260 0) :: (Value.int 24 0) :: (Value.str (Str.ofString "/claim/cut.py") 261) :: [])) }) ::
  (nat_lit 71, { cls := Value.type "function", data := Data.func { name := Str.ofString "__contains__", qualname := Str.ofString "OrderedSet.__contains__", params := fa_3_2, body := FuncBody.stmts fb_3_2, scope := fs_3_2, globals := 3, closure := [], defaults := Value.none, kwdefaults := Value.none, pyModule := Value.str (Str.ofString "uritemplate.orderedset") 194, code := Value.ref 70 } }) ::
  (nat_lit 72, { cls := Value.type "tuple", data := Data.seq #[] }) ::
  (nat_lit 74, { cls := Value.type "tuple", data := Data.seq (List.toArray ((Value.str (Str.ofString "self") 266) :: (Value.str (Str.ofString "key") 267) :: (Value.str (Str.ofString "link") 268) :: (Value.str (Str.ofString "root") 269) :: (Value.str (Str.ofString "last") 270) :: [])) }) ::
  (nat_lit 75, { cls := Value.type "tuple", data := Data.seq #[] }) ::
  (nat_lit 77, { cls := Value.type "code", data := Data.fields (List.toArray ((Value.str (Str.ofString "add") 263) :: (Value.str (Str.ofString "OrderedSet.add") 264) :: (Value.str (Str.ofString "/claim/cut.py") 265) :: (Value.int 27 0) :: (Value.int 2 0) :: (Value.int 0 0) :: (Value.int 0 0) :: (Value.int 3 0) :: (Value.ref 72) :: (Value.bool true) :: (Value.int 181 0) :: (Value.ref 73) :: (Value.none) :: (Value.ref 74) :: (Value.ref 75) :: (Value.ref 76) :: (Value.int 271 0) :: (Value.int 27 0) :: (Value.str (Str.ofString "/claim/cut.py") 272) :: [])) }) ::
  (nat_lit 78, { cls := Value.type "function", data := Data.func { name := Str.ofString "add", qualname := Str.ofString "OrderedSet.add", params := fa_3_3, body := FuncBody.stmts fb_3_3, scope := fs_3_3, globals := 3, closure := [], defaults := Value.none, kwdefaults := Value.none, pyModule := Value.str (Str.ofString "uritemplate.orderedset") 194, code := Value.ref 77 } }) ::
  (nat_lit 79, { cls := Value.type "tuple", data := Data.seq #[] }) ::
  (nat_lit 81, { cls := Value.type "tuple", data := Data.seq (List.toArray ((Value.str (Str.ofString "self") 277) :: (Value.str (Str.ofString "key") 278) :: [])) }) ::
  (nat_lit 82, { cls := Value.type "tuple", data := Data.seq #[] }) ::
  (nat_lit 84, { cls := Value.type "code", data := Data.fields (List.toArray ((Value.str (Str.ofString "discard") 274) :: (Value.str (Str.ofString "OrderedSet.discard") 275) :: (Value.str (Str.ofString "/claim/cut.py") 276) :: (Value.int 35 0) :: (Value.int 2 0) :: (Value.int 0 0) :: (Value.int 0 0) :: (Value.int 3 0) :: (Value.ref 79) :: (Value.bool true) :: (Value.int 181 0) :: (Value.ref 80) :: (Value.none) :: (Value.ref 81) :: (Value.ref 82) :: (Value.ref 83) :: (Value.int 279 0) :: (Value.int 35 0) :: (Value.str (Str.ofString "/claim/cut.py") 280) :: [])) }) ::
  (nat_lit 85, { cls := Value.type "function", data := Data.func { name := Str.ofString "discard", qualname := Str.ofString "OrderedSet.discard", params := fa_3_4, body := FuncBody.stmts fb_3_4, scope := fs_3_4, globals := 3, closure := [], defaults := Value.none, kwdefaults := Value.none, pyModule := Value.str (Str.ofString "uritemplate.orderedset") 194, code := Value.ref 84 } }) ::
  (nat_lit 86, { cls := Value.type "tuple", data := Data.seq #[] }) ::
  (nat_lit 88, { cls := Value.type "tuple", data := Data.seq (List.toArray ((Value.str (Str.ofString "self") 285) :: (Value.str (Str.ofString "root") 286) :: (Value.str (Str.ofString "curr") 287) :: [])) }) ::
  (nat_lit 89, { cls := Value.type "tuple", data := Data.seq #[] }) ::
  (nat_lit 91, { cls := Value.type "code", data := Data.fields (List.toArray ((Value.str (Str.ofString "__iter__") 282) :: (Value.str (Str.ofString "OrderedSet.__iter__") 283) :: (Value.str (Str.ofString "/claim/cut.py") 284) :: (Value.int 38 0) :: (Value.int 1 0) :: (Value.int 0 0) :: (Value.int 0 0) :: (Value.int 35 0) :: (Value.ref 86) :: (Value.bool true) :: (Value.int 181 0) :: (Value.ref 87) :: (Value.none) :: (Value.ref 88) :: (Value.ref 89) :: (Value.ref 90) :: (Value.int 288 0) :: (Value.int 38 0) :: (Value.str (Str.ofString "/claim/cut.py") 289) :: [])) }) ::
  (nat_lit 92, { cls := Value.type "function", data := Data.func { name := Str.ofString "__iter__", qualname := Str.ofString "OrderedSet.__iter__", params := fa_3_5, body := FuncBody.stmts fb_3_5, scope := fs_3_5, globals := 3, closure := [], defaults := Value.none, kwdefaults := Value.none, pyModule := Value.str (Str.ofString "uritemplate.orderedset") 194, code := Value.ref 91 } }) ::
  (nat_lit 93, { cls := Value.type "tuple", data := Data.seq #[] }) ::
  (nat_lit 95, { cls := Value.type "tuple", data := Data.seq (List.toArray ((Value.str (Str.ofString "self") 294) :: (Value.str (Str.ofString "root") 295) :: (Value.str (Str.ofString "curr") 296) :: [])) }) ::
  (nat_lit 96, { cls := Value.type "tuple", data := Data.seq #[] }) ::
  (nat_lit 98, { cls := Value.type "code", data := Data.fields (List.toArray ((Value.str (Str.ofString "__reversed__") 291) :: (Value.str (Str.ofString "OrderedSet.__reversed__") 292) :: (Value.str (Str.ofString "/claim/cut.py") 293) :: (Value.int 45 0) :: (Value.int 1 0) :: (Value.int 0 0) :: (Value.int 0 0) :: (Value.int 35 0) :: (Value.ref 93) :: (Value.bool true) :: (Value.int 181 0) :: (Value.ref 94) :: (Value.none) :: (Value.ref 95) :: (Value.ref 96) :: (Value.ref 97) :: (Value.int 297 0) :: (Value.int 45 0) :: (Value.str (Str.ofString "/claim/cut.py") 298) :: [])) }) ::
  (nat_lit 99, { cls := Value.type "function", data := Data.func { name := Str.ofString "__reversed__", qualname := Str.ofString "OrderedSet.__reversed__", params := fa_3_6, body := FuncBody.stmts fb_3_6, scope := fs_3_6, globals := 3, closure := [], defaults := Value.none, kwdefaults := Value.none, pyModule := Value.str (Str.ofString "uritemplate.orderedset") 194, code := Value.ref 98 } }) ::
  (nat_lit 100, { cls := Value.type "tuple", data := Data.seq (List.toArray ((Value.bool true) :: [])) }) ::
  (nat_lit 101, { cls := Value.type "tuple", data := Data.seq #[] }) ::
  (nat_lit 103, { cls := Value.type "tuple", data := Data.seq (List.toArray ((Value.str (Str.ofString "self") 303) :: (Value.str (Str.ofString "last") 304) :: [])) }) ::
  (nat_lit 104, { cls := Value.type "tuple", data := Data.seq #[] }) ::
  (nat_lit 106, { cls := Value.type "code", data := Data.fields (List.toArray ((Value.str (Str.ofString "pop") 300) :: (Value.str (Str.ofString "OrderedSet.pop") 301) :: (Value.str (Str.ofString "/claim/cut.py") 302) :: (Value.int 52 0) :: (Value.int 2 0) :: (Value.int 0 0) :: (Value.int 0 0) :: (Value.int 3 0) :: (Value.ref 101) :: (Value.bool true) :: (Value.int 181 0) :: (Value.ref 102) :: (Value.none) :: (Value.ref 103) :: (Value.ref 104) :: (Value.ref 105) :: (Value.int 305 0) :: (Value.int 52 0) :: (Value.str (Str.ofString "/claim/cut.py") 306) :: [])) }) ::
  (nat_lit 107, { cls := Value.type "function", data := Data.func { name := Str.ofString "pop", qualname := Str.ofString "OrderedSet.pop", params := fa_3_7, body := FuncBody.stmts fb_3_7, scope := fs_3_7, globals := 3, closure := [], defaults := Value.ref 100, kwdefaults := Value.none, pyModule := Value.str (Str.ofString "uritemplate.orderedset") 194, code := Value.ref 106 } }) ::
  (nat_lit 108, { cls := Value.type "tuple", data := Data.seq #[] }) ::
  (nat_lit 110, { cls := Value.type "tuple", data := Data.seq (List.toArray ((Value.str (Str.ofString "self") 311) :: (Value.str (Str.ofString "other") 312) :: (Value.str (Str.ofString "key") 313) :: [])) }) ::
  (nat_lit 111, { cls := Value.type "tuple", data := Data.seq #[] }) ::
  (nat_lit 113, { cls := Value.type "code", data := Data.fields (List.toArray ((Value.str (Str.ofString "__eq__") 308) :: (Value.str (Str.ofString "OrderedSet.__eq__") 309) :: (Value.str (Str.ofString "/claim/cut.py") 310) :: (Value.int 55 0) :: (Value.int 2 0) :: (Value.int 0 0) :: (Value.int 0 0) :: (Value.int 3 0) :: (Value.ref 108) :: (Value.bool true) :: (Value.int 181 0) :: (Value.ref 109) :: (Value.none) :: (Value.ref 110) :: (Value.ref 111) :: (Value.ref 112) :: (Value.int 314 0) :: (Value.int 55 0) :: (Value.str (Str.ofString "/claim/cut.py") 315) :: [])) }) ::
  (nat_lit 114, { cls := Value.type "function", data := Data.func { name := Str.ofString "__eq__", qualname := Str.ofString "OrderedSet.__eq__", params := fa_3_8, body := FuncBody.stmts fb_3_8, scope := fs_3_8, globals := 3, closure := [], defaults := Value.none, kwdefaults := Value.none, pyModule := Value.str (Str.ofString "uritemplate.orderedset") 194, code := Value.ref 113 } }) ::
  (nat_lit 115, { cls := Value.type "tuple", data := Data.seq (List.toArray ((Value.str (Str.ofString "_map") 317) :: (Value.str (Str.ofString "_root") 318) :: [])) }) ::
  (nat_lit 116, { cls := Value.type "dict", data := Data.dict (List.toArray ({ hash := PyData.keyHash P (Str.ofString "__module__"), key := Value.str (Str.ofString "__module__") 233, val := Value.str (Str.ofString "uritemplate.orderedset") 194 } :: { hash := PyData.keyHash P (Str.ofString "__firstlineno__"), key := Value.str (Str.ofString "__firstlineno__") 237, val := Value.int 11 236 } :: { hash := PyData.keyHash P (Str.ofString "__init__"), key := Value.str (Str.ofString "__init__") 247, val := Value.ref 57 } :: { hash := PyData.keyHash P (Str.ofString "__len__"), key := Value.str (Str.ofString "__len__") 254, val := Value.ref 64 } :: { hash := PyData.keyHash P (Str.ofString "__contains__"), key := Value.str (Str.ofString "__contains__") 262, val := Value.ref 71 } :: { hash := PyData.keyHash P (Str.ofString "add"), key := Value.str (Str.ofString "add") 273, val := Value.ref 78 } :: { hash := PyData.keyHash P (Str.ofString "discard"), key := Value.str (Str.ofString "discard") 281, val := Value.ref 85 } :: { hash := PyData.keyHash P (Str.ofString "__iter__"), key := Value.str (Str.ofString "__iter__") 290, val := Value.ref 92 } :: { hash := PyData.keyHash P (Str.ofString "__reversed__"), key := Value.str (Str.ofString "__reversed__") 299, val := Value.ref 99 } :: { hash := PyData.keyHash P (Str.ofString "pop"), key := Value.str (Str.ofString "pop") 307, val := Value.ref 107 } :: { hash := PyData.keyHash P (Str.ofString "__eq__"), key := Value.str (Str.ofString "__eq__") 316, val := Value.ref 114 } :: { hash := PyData.keyHash P (Str.ofString "__static_attributes__"), key := Value.str (Str.ofString "__static_attributes__") 319, val := Value.ref 115 } :: { hash := PyData.keyHash P (Str.ofString "__dict__"), key := Value.str (Str.ofString "__dict__") 321, val := Value.ref 118 } :: { hash := PyData.keyHash P (Str.ofString "__weakref__"), key := Value.str (Str.ofString "__weakref__") 323, val := Value.ref 119 } :: { hash := PyData.keyHash P (Str.ofString "__doc__"), key := Value.str (Str.ofString "__doc__") 324, val := Value.none } :: { hash := PyData.keyHash P (Str.ofString "__hash__"), key := Value.str (Str.ofString "__hash__") 325, val := Value.none } :: [])) 5 }) ::
  (nat_lit 117, { cls := Value.type "type", data := Data.cls { name := Str.ofString "OrderedSet", bases := [Value.type "object"], mro := [Value.ref 117, Value.type "object"], ns := 116, qualname := Str.ofString "OrderedSet" }, slots := (List.toArray ((none) :: (none) :: (some (Value.str (Str.ofString "OrderedSet") 226)) :: (some (Value.str (Str.ofString "OrderedSet") 234)) :: (some (Value.builtin "object.__new__")) :: (some (Value.bool true)) :: [])) }) ::
  (nat_lit 118, { cls := Value.type "getset_descriptor", data := Data.fields (List.toArray ((Value.str (Str.ofString "__dict__") 320) :: (Value.ref 117) :: (Value.builtin "function.__dict__") :: (Value.builtin "function.__dict__#set") :: [])) }) ::
  (nat_lit 119, { cls := Value.type "getset_descriptor", data := Data.fields (List.toArray ((Value.str (Str.ofString "__weakref__") 322) :: (Value.ref 117) :: (Value.builtin "ExceptionGroup.__weakref__") :: (Value.none) :: [])) }) ::
  (nat_lit 129, { cls := Value.type "tuple", data := Data.seq #[] }) ::
  (nat_lit 131, { cls := Value.type "tuple", data := Data.seq (List.toArray ((Value.str (Str.ofString "self") 377) :: (Value.str (Str.ofString "value") 378) :: [])) }) ::
  (nat_lit 132, { cls := Value.type "tuple", data := Data.seq #[] }) ::
  (nat_lit 134, { cls := Value.type "code", data := Data.fields (List.toArray ((Value.str (Str.ofString "__init__") 374) :: (Value.str (Str.ofString "Operator.__init__") 375) :: (Value.str (Str.ofString "/claim/cut.py") 376) :: (Value.int 81 0) :: (Value.int 2 0) :: (Value.int 0 0) :: (Value.int 0 0) :: (Value.int 3 0) :: (Value.ref 129) :: (Value.bool true) :: (Value.int 181 0) :: (Value.ref 130) :: (Value.none) :: (Value.ref 131) :: (Value.ref 132) :: (Value.ref 133) :: (Value.int 379 0) :: (Value.int 81 0) :: (Value.str (Str.ofString "/claim/cut.py") 380) :: [])) }) ::
  (nat_lit 135, { cls := Value.type "function", data := Data.func { name := Str.ofString "__init__", qualname := Str.ofString "Operator.__init__", params := fa_8_13, body := FuncBody.stmts fb_8_13, scope := fs_8_13, globals := 3, closure := [], defaults := Value.none, kwdefaults := Value.none, pyModule := Value.str (Str.ofString "uritemplate.variable") 328, code := Value.ref 134 } }) ::
  (nat_lit 136, { cls := Value.type "tuple", data := Data.seq #[] }) ::
  (nat_lit 138, { cls := Value.type "tuple", data := Data.seq (List.toArray ((Value.str (Str.ofString "self") 385) :: [])) }) ::
  (nat_lit 139, { cls := Value.type "tuple", data := Data.seq #[] }) ::
  (nat_lit 141, { cls := Value.type "code", data := Data.fields (List.toArray ((Value.str (Str.ofString "reserved_characters") 382) :: (Value.str (Str.ofString "Operator.reserved_characters") 383) :: (Value.str (Str.ofString "/claim/cut.py") 384) :: (Value.int 84 0) :: (Value.int 1 0) :: (Value.int 0 0) :: (Value.int 0 0) :: (Value.int 3 0) :: (Value.ref 136) :: (Value.bool true) :: (Value.int 181 0) :: (Value.ref 137) :: (Value.none) :: (Value.ref 138) :: (Value.ref 139) :: (Value.ref 140) :: (Value.int 386 0) :: (Value.int 84 0) :: (Value.str (Str.ofString "/claim/cut.py") 387) :: [])) }) ::
  (nat_lit 142, { cls := Value.type "function", data := Data.func { name := Str.ofString "reserved_characters", qualname := Str.ofString "Operator.reserved_characters", params := fa_8_14, body := FuncBody.stmts fb_8_14, scope := fs_8_14, globals := 3, closure := [], defaults := Value.none, kwdefaults := Value.none, pyModule := Value.str (Str.ofString "uritemplate.variable") 328, code := Value.ref 141 } }) ::
  (nat_lit 143, { cls := Value.type "tuple", data := Data.seq #[] }) ::
  (nat_lit 145, { cls := Value.type "tuple", data := Data.seq (List.toArray ((Value.str (Str.ofString "self") 392) :: [])) }) ::
  (nat_lit 146, { cls := Value.type "tuple", data := Data.seq #[] }) ::
  (nat_lit 148, { cls := Value.type "code", data := Data.fields (List.toArray ((Value.str (Str.ofString "expansion_separator") 389) :: (Value.str (Str.ofString "Operator.expansion_separator") 390) :: (Value.str (Str.ofString "/claim/cut.py") 391) :: (Value.int 91 0) :: (Value.int 1 0) :: (Value.int 0 0) :: (Value.int 0 0) :: (Value.int 3 0) :: (Value.ref 143) :: (Value.bool true) :: (Value.int 181 0) :: (Value.ref 144) :: (Value.none) :: (Value.ref 145) :: (Value.ref 146) :: (Value.ref 147) :: (Value.int 393 0) :: (Value.int 91 0) :: (Value.str (Str.ofString "/claim/cut.py") 394) :: [])) }) ::
  (nat_lit 149, { cls := Value.type "function", data := Data.func { name := Str.ofString "expansion_separator", qualname := Str.ofString "Operator.expansion_separator", params := fa_8_15, body := FuncBody.stmts fb_8_15, scope := fs_8_15, globals := 3, closure := [], defaults := Value.none, kwdefaults := Value.none, pyModule := Value.str (Str.ofString "uritemplate.variable") 328, code := Value.ref 148 } }) ::
  (nat_lit 150, { cls := Value.type "tuple", data := Data.seq #[] }) ::
  (nat_lit 152, { cls := Value.type "tuple", data := Data.seq (List.toArray ((Value.str (Str.ofString "self") 399) :: [])) }) ::
  (nat_lit 153, { cls := Value.type "tuple", data := Data.seq #[] }) ::
  (nat_lit 155, { cls := Value.type "code", data := Data.fields (List.toArray ((Value.str (Str.ofString "variable_prefix") 396) :: (Value.str (Str.ofString "Operator.variable_prefix") 397) :: (Value.str (Str.ofString "/claim/cut.py") 398) :: (Value.int 102 0) :: (Value.int 1 0) :: (Value.int 0 0) :: (Value.int 0 0) :: (Value.int 3 0) :: (Value.ref 150) :: (Value.bool true) :: (Value.int 181 0) :: (Value.ref 151) :: (Value.none) :: (Value.ref 152) :: (Value.ref 153) :: (Value.ref 154) :: (Value.int 400 0) :: (Value.int 102 0) :: (Value.str (Str.ofString "/claim/cut.py") 401) :: [])) }) ::
  (nat_lit 156, { cls := Value.type "function", data := Data.func { name := Str.ofString "variable_prefix", qualname := Str.ofString "Operator.variable_prefix", params := fa_8_16, body := FuncBody.stmts fb_8_16, scope := fs_8_16, globals := 3, closure := [], defaults := Value.none, kwdefaults := Value.none, pyModule := Value.str (Str.ofString "uritemplate.variable") 328, code := Value.ref 155 } }) ::
  (nat_lit 157, { cls := Value.type "tuple", data := Data.seq #[] }) ::
  (nat_lit 159, { cls := Value.type "tuple", data := Data.seq (List.toArray ((Value.str (Str.ofString "self") 406) :: (Value.str (Str.ofString "value") 407) :: [])) }) ::
  (nat_lit 160, { cls := Value.type "tuple", data := Data.seq #[] }) ::
  (nat_lit 162, { cls := Value.type "code", data := Data.fields (List.toArray ((Value.str (Str.ofString "_always_quote") 403) :: (Value.str (Str.ofString "Operator._always_quote") 404) :: (Value.str (Str.ofString "/claim/cut.py") 405) :: (Value.int 107 0) :: (Value.int 2 0) :: (Value.int 0 0) :: (Value.int 0 0) :: (Value.int 3 0) :: (Value.ref 157) :: (Value.bool true) :: (Value.int 181 0) :: (Value.ref 158) :: (Value.none) :: (Value.ref 159) :: (Value.ref 160) :: (Value.ref 161) :: (Value.int 408 0) :: (Value.int 107 0) :: (Value.str (Str.ofString "/claim/cut.py") 409) :: [])) }) ::
  (nat_lit 163, { cls := Value.type "function", data := Data.func { name := Str.ofString "_always_quote", qualname := Str.ofString "Operator._always_quote", params := fa_8_17, body := FuncBody.stmts fb_8_17, scope := fs_8_17, globals := 3, closure := [], defaults := Value.none, kwdefaults := Value.none, pyModule := Value.str (Str.ofString "uritemplate.variable") 328, code := Value.ref 162 } }) ::
  (nat_lit 164, { cls := Value.type "tuple", data := Data.seq #[] }) ::
  (nat_lit 166, { cls := Value.type "tuple", data := Data.seq (List.toArray ((Value.str (Str.ofString "self") 414) :: (Value.str (Str.ofString "value") 415) :: [])) }) ::
  (nat_lit 167, { cls := Value.type "tuple", data := Data.seq #[] }) ::
  (nat_lit 169, { cls := Value.type "code", data := Data.fields (List.toArray ((Value.str (Str.ofString "_only_quote_unquoted_characters") 411) :: (Value.str (Str.ofString "Operator._only_quote_unquoted_characters") 412) :: (Value.str (Str.ofString "/claim/cut.py") 413) :: (Value.int 110 0) :: (Value.int 2 0) :: (Value.int 0 0) :: (Value.int 0 0) :: (Value.int 3 0) :: (Value.ref 164) :: (Value.bool true) :: (Value.int 181 0) :: (Value.ref 165) :: (Value.none) :: (Value.ref 166) :: (Value.ref 167) :: (Value.ref 168) :: (Value.int 416 0) :: (Value.int 110 0) :: (Value.str (Str.ofString "/claim/cut.py") 417) :: [])) }) ::
  (nat_lit 170, { cls := Value.type "function", data := Data.func { name := Str.ofString "_only_quote_unquoted_characters", qualname := Str.ofString "Operator._only_quote_unquoted_characters", params := fa_8_18, body := FuncBody.stmts fb_8_18, scope := fs_8_18, globals := 3, closure := [], defaults := Value.none, kwdefaults := Value.none, pyModule := Value.str (Str.ofString "uritemplate.variable") 328, code := Value.ref 169 } }) ::
  (nat_lit 171, { cls := Value.type "tuple", data := Data.seq #[] }) ::
  (nat_lit 173, { cls := Value.type "tuple", data := Data.seq (List.toArray ((Value.str (Str.ofString "self") 422) :: (Value.str (Str.ofString "value") 423) :: [])) }) ::
  (nat_lit 174, { cls := Value.type "tuple", data := Data.seq #[] }) ::
  (nat_lit 176, { cls := Value.type "code", data := Data.fields (List.toArray ((Value.str (Str.ofString "quote") 419) :: (Value.str (Str.ofString "Operator.quote") 420) :: (Value.str (Str.ofString "/claim/cut.py") 421) :: (Value.int 115 0) :: (Value.int 2 0) :: (Value.int 0 0) :: (Value.int 0 0) :: (Value.int 3 0) :: (Value.ref 171) :: (Value.bool true) :: (Value.int 181 0) :: (Value.ref 172) :: (Value.none) :: (Value.ref 173) :: (Value.ref 174) :: (Value.ref 175) :: (Value.int 424 0) :: (Value.int 115 0) :: (Value.str (Str.ofString "/claim/cut.py") 425) :: [])) }) ::
  (nat_lit 177, { cls := Value.type "function", data := Data.func { name := Str.ofString "quote", qualname := Str.ofString "Operator.quote", params := fa_8_19, body := FuncBody.stmts fb_8_19, scope := fs_8_19, globals := 3, closure := [], defaults := Value.none, kwdefaults := Value.none, pyModule := Value.str (Str.ofString "uritemplate.variable") 328, code := Value.ref 176 } }) ::
  (nat_lit 178, { cls := Value.type "tuple", data := Data.seq #[] }) ::
  (nat_lit 180, { cls := Value.type "tuple", data := Data.seq (List.toArray ((Value.str (Str.ofString "s") 430) :: [])) }) ::
  (nat_lit 181, { cls := Value.type "tuple", data := Data.seq #[] }) ::
  (nat_lit 183, { cls := Value.type "code", data := Data.fields (List.toArray ((Value.str (Str.ofString "from_string") 427) :: (Value.str (Str.ofString "Operator.from_string") 428) :: (Value.str (Str.ofString "/claim/cut.py") 429) :: (Value.int 124 0) :: (Value.int 1 0) :: (Value.int 0 0) :: (Value.int 0 0) :: (Value.int 3 0) :: (Value.ref 178) :: (Value.bool true) :: (Value.int 181 0) :: (Value.ref 179) :: (Value.none) :: (Value.ref 180) :: (Value.ref 181) :: (Value.ref 182) :: (Value.int 431 0) :: (Value.int 124 0) :: (Value.str (Str.ofString "/claim/cut.py") 432) :: [])) }) ::
  (nat_lit 184, { cls := Value.type "function", data := Data.func { name := Str.ofString "from_string", qualname := Str.ofString "Operator.from_string", params := fa_8_20, body := FuncBody.stmts fb_8_20, scope := fs_8_20, globals := 3, closure := [], defaults := Value.none, kwdefaults := Value.none, pyModule := Value.str (Str.ofString "uritemplate.variable") 328, annotations := some 187, code := Value.ref 183 } }) ::
  (nat_lit 185, { cls := Value.type "dict", data := Data.dict (List.toArray ({ hash := PyData.keyHash P (Str.ofString "__module__"), key := Value.str (Str.ofString "__module__") 434, val := Value.str (Str.ofString "uritemplate.variable") 328 } :: { hash := PyData.keyHash P (Str.ofString "__name__"), key := Value.str (Str.ofString "__name__") 437, val := Value.str (Str.ofString "from_string") 436 } :: { hash := PyData.keyHash P (Str.ofString "__qualname__"), key := Value.str (Str.ofString "__qualname__") 440, val := Value.str (Str.ofString "Operator.from_string") 439 } :: { hash := PyData.keyHash P (Str.ofString "__doc__"), key := Value.str (Str.ofString "__doc__") 442, val := Value.none } :: { hash := PyData.keyHash P (Str.ofString "__annotations__"), key := Value.str (Str.ofString "__annotations__") 444, val := Value.ref 187 } :: [])) 5 }) ::
  (nat_lit 186, { cls := Value.type "staticmethod", dict := some 185, data := Data.fields (List.toArray ((Value.ref 184) :: (Value.bool false) :: [])) }) ::
  (nat_lit 187, { cls := Value.type "dict", data := Data.dict #[] }) ::
  (nat_lit 188, { cls := Value.type "tuple", data := Data.seq (List.toArray ((Value.str (Str.ofString "value") 446) :: [])) }) ::
  (nat_lit 189, { cls := Value.type "dict", data := Data.dict (List.toArray ({ hash := PyData.keyHash P (Str.ofString "__module__"), key := Value.str (Str.ofString "__module__") 343, val := Value.str (Str.ofString "uritemplate.variable") 328 } :: { hash := PyData.keyHash P (Str.ofString "__firstlineno__"), key := Value.str (Str.ofString "__firstlineno__") 347, val := Value.int 66 346 } :: { hash := PyData.keyHash P (Str.ofString "default"), key := Value.str (Str.ofString "default") 349, val := Value.str (Str.ofString "") 348 } :: { hash := PyData.keyHash P (Str.ofString "reserved"), key := Value.str (Str.ofString "reserved") 351, val := Value.str (Str.ofString "+") 350 } :: { hash := PyData.keyHash P (Str.ofString "fragment"), key := Value.str (Str.ofString "fragment") 353, val := Value.str (Str.ofString "#") 352 } :: { hash := PyData.keyHash P (Str.ofString "label_with_dot_prefix"), key := Value.str (Str.ofString "label_with_dot_prefix") 355, val := Value.str (Str.ofString ".") 354 } :: { hash := PyData.keyHash P (Str.ofString "path_segment"), key := Value.str (Str.ofString "path_segment") 357, val := Value.str (Str.ofString "/") 356 } :: { hash := PyData.keyHash P (Str.ofString "path_style_parameter"), key := Value.str (Str.ofString "path_style_parameter") 359, val := Value.str (Str.ofString ";") 358 } :: { hash := PyData.keyHash P (Str.ofString "form_style_query"), key := Value.str (Str.ofString "form_style_query") 361, val := Value.str (Str.ofString "?") 360 } :: { hash := PyData.keyHash P (Str.ofString "form_style_query_continuation"), key := Value.str (Str.ofString "form_style_query_continuation") 363, val := Value.str (Str.ofString "&") 362 } :: { hash := PyData.keyHash P (Str.ofString "reserved_eq"), key := Value.str (Str.ofString "reserved_eq") 365, val := Value.str (Str.ofString "=") 364 } :: { hash := PyData.keyHash P (Str.ofString "reserved_comma"), key := Value.str (Str.ofString "reserved_comma") 367, val := Value.str (Str.ofString ",") 366 } :: { hash := PyData.keyHash P (Str.ofString "reserved_bang"), key := Value.str (Str.ofString "reserved_bang") 369, val := Value.str (Str.ofString "!") 368 } :: { hash := PyData.keyHash P (Str.ofString "reserved_at"), key := Value.str (Str.ofString "reserved_at") 371, val := Value.str (Str.ofString "@") 370 } :: { hash := PyData.keyHash P (Str.ofString "reserved_pipe"), key := Value.str (Str.ofString "reserved_pipe") 373, val := Value.str (Str.ofString "|") 372 } :: { hash := PyData.keyHash P (Str.ofString "__init__"), key := Value.str (Str.ofString "__init__") 381, val := Value.ref 135 } :: { hash := PyData.keyHash P (Str.ofString "reserved_characters"), key := Value.str (Str.ofString "reserved_characters") 388, val := Value.ref 142 } :: { hash := PyData.keyHash P (Str.ofString "expansion_separator"), key := Value.str (Str.ofString "expansion_separator") 395, val := Value.ref 149 } :: { hash := PyData.keyHash P (Str.ofString "variable_prefix"), key := Value.str (Str.ofString "variable_prefix") 402, val := Value.ref 156 } :: { hash := PyData.keyHash P (Str.ofString "_always_quote"), key := Value.str (Str.ofString "_always_quote") 410, val := Value.ref 163 } :: { hash := PyData.keyHash P (Str.ofString "_only_quote_unquoted_characters"), key := Value.str (Str.ofString "_only_quote_unquoted_characters") 418, val := Value.ref 170 } :: { hash := PyData.keyHash P (Str.ofString "quote"), key := Value.str (Str.ofString "quote") 426, val := Value.ref 177 } :: { hash := PyData.keyHash P (Str.ofString "from_string"), key := Value.str (Str.ofString "from_string") 445, val := Value.ref 186 } :: { hash := PyData.keyHash P (Str.ofString "__static_attributes__"), key := Value.str (Str.ofString "__static_attributes__") 447, val := Value.ref 188 } :: { hash := PyData.keyHash P (Str.ofString "__dict__"), key := Value.str (Str.ofString "__dict__") 449, val := Value.ref 191 } :: { hash := PyData.keyHash P (Str.ofString "__weakref__"), key := Value.str (Str.ofString "__weakref__") 451, val := Value.ref 192 } :: { hash := PyData.keyHash P (Str.ofString "__doc__"), key := Value.str (Str.ofString "__doc__") 452, val := Value.none } :: [])) 4 }) ::
  (nat_lit 190, { cls := Value.type "type", data := Data.cls { name := Str.ofString "Operator", bases := [Value.type "object"], mro := [Value.ref 190, Value.type "object"], ns := 189, qualname := Str.ofString "Operator" }, slots := (List.toArray ((none) :: (none) :: (some (Value.str (Str.ofString "Operator") 336)) :: (some (Value.str (Str.ofString "Operator") 344)) :: (some (Value.builtin "object.__new__")) :: (some (Value.bool true)) :: [])) }) ::
  (nat_lit 191, { cls := Value.type "getset_descriptor", data := Data.fields (List.toArray ((Value.str (Str.ofString "__dict__") 448) :: (Value.ref 190) :: (Value.builtin "function.__dict__") :: (Value.builtin "function.__dict__#set") :: [])) }) ::
  (nat_lit 192, { cls := Value.type "getset_descriptor", data := Data.fields (List.toArray ((Value.str (Str.ofString "__weakref__") 450) :: (Value.ref 190) :: (Value.builtin "ExceptionGroup.__weakref__") :: (Value.none) :: [])) }) ::
  (nat_lit 195, { cls := Value.type "dict", data := Data.dict (List.toArray ({ hash := PyData.keyHash P (Str.ofString "+"), key := Value.str (Str.ofString "+") 455, val := Value.str (Str.ofString "+") 456 } :: { hash := PyData.keyHash P (Str.ofString "#"), key := Value.str (Str.ofString "#") 457, val := Value.str (Str.ofString "#") 458 } :: { hash := PyData.keyHash P (Str.ofString "."), key := Value.str (Str.ofString ".") 459, val := Value.str (Str.ofString ".") 460 } :: { hash := PyData.keyHash P (Str.ofString "/"), key := Value.str (Str.ofString "/") 461, val := Value.str (Str.ofString "/") 462 } :: { hash := PyData.keyHash P (Str.ofString ";"), key := Value.str (Str.ofString ";") 463, val := Value.str (Str.ofString ";") 464 } :: { hash := PyData.keyHash P (Str.ofString "?"), key := Value.str (Str.ofString "?") 465, val := Value.str (Str.ofString "?") 466 } :: { hash := PyData.keyHash P (Str.ofString "&"), key := Value.str (Str.ofString "&") 467, val := Value.str (Str.ofString "&") 468 } :: { hash := PyData.keyHash P (Str.ofString "!"), key := Value.str (Str.ofString "!") 469, val := Value.str (Str.ofString "!") 470 } :: { hash := PyData.keyHash P (Str.ofString "|"), key := Value.str (Str.ofString "|") 471, val := Value.str (Str.ofString "|") 472 } :: { hash := PyData.keyHash P (Str.ofString "@"), key := Value.str (Str.ofString "@") 473, val := Value.str (Str.ofString "@") 474 } :: { hash := PyData.keyHash P (Str.ofString "="), key := Value.str (Str.ofString "=") 475, val := Value.str (Str.ofString "=") 476 } :: { hash := PyData.keyHash P (Str.ofString ","), key := Value.str (Str.ofString ",") 477, val := Value.str (Str.ofString ",") 478 } :: [])) 12 }) ::
  (nat_lit 203, { cls := Value.type "tuple", data := Data.seq #[] }) ::
  (nat_lit 205, { cls := Value.type "tuple", data := Data.seq (List.toArray ((Value.str (Str.ofString "self") 507) :: (Value.str (Str.ofString "var") 508) :: [])) }) ::
  (nat_lit 206, { cls := Value.type "tuple", data := Data.seq #[] }) ::
  (nat_lit 208, { cls := Value.type "code", data := Data.fields (List.toArray ((Value.str (Str.ofString "__init__") 504) :: (Value.str (Str.ofString "URIVariable.__init__") 505) :: (Value.str (Str.ofString "/claim/cut.py") 506) :: (Value.int 130 0) :: (Value.int 2 0) :: (Value.int 0 0) :: (Value.int 0 0) :: (Value.int 3 0) :: (Value.ref 203) :: (Value.bool true) :: (Value.int 181 0) :: (Value.ref 204) :: (Value.none) :: (Value.ref 205) :: (Value.ref 206) :: (Value.ref 207) :: (Value.int 509 0) :: (Value.int 130 0) :: (Value.str (Str.ofString "/claim/cut.py") 510) :: [])) }) ::
  (nat_lit 209, { cls := Value.type "function", data := Data.func { name := Str.ofString "__init__", qualname := Str.ofString "URIVariable.__init__", params := fa_10_0, body := FuncBody.stmts fb_10_0, scope := fs_10_0, globals := 3, closure := [], defaults := Value.none, kwdefaults := Value.none, pyModule := Value.str (Str.ofString "uritemplate.variable") 328, code := Value.ref 208 } }) ::
  (nat_lit 210, { cls := Value.type "tuple", data := Data.seq #[] }) ::
  (nat_lit 212, { cls := Value.type "tuple", data := Data.seq (List.toArray ((Value.str (Str.ofString "self") 515) :: [])) }) ::
  (nat_lit 213, { cls := Value.type "tuple", data := Data.seq #[] }) ::
  (nat_lit 215, { cls := Value.type "code", data := Data.fields (List.toArray ((Value.str (Str.ofString "__repr__") 512) :: (Value.str (Str.ofString "URIVariable.__repr__") 513) :: (Value.str (Str.ofString "/claim/cut.py") 514) :: (Value.int 138 0) :: (Value.int 1 0) :: (Value.int 0 0) :: (Value.int 0 0) :: (Value.int 3 0) :: (Value.ref 210) :: (Value.bool true) :: (Value.int 181 0) :: (Value.ref 211) :: (Value.none) :: (Value.ref 212) :: (Value.ref 213) :: (Value.ref 214) :: (Value.int 516 0) :: (Value.int 138 0) :: (Value.str (Str.ofString "/claim/cut.py") 517) :: [])) }) ::
  (nat_lit 216, { cls := Value.type "function", data := Data.func { name := Str.ofString "__repr__", qualname := Str.ofString "URIVariable.__repr__", params := fa_10_1, body := FuncBody.stmts fb_10_1, scope := fs_10_1, globals := 3, closure := [], defaults := Value.none, kwdefaults := Value.none, pyModule := Value.str (Str.ofString "uritemplate.variable") 328, code := Value.ref 215 } }) ::
  (nat_lit 217, { cls := Value.type "tuple", data := Data.seq #[] }) ::
  (nat_lit 219, { cls := Value.type "tuple", data := Data.seq (List.toArray ((Value.str (Str.ofString "self") 522) :: [])) }) ::
  (nat_lit 220, { cls := Value.type "tuple", data := Data.seq #[] }) ::
  (nat_lit 222, { cls := Value.type "code", data := Data.fields (List.toArray ((Value.str (Str.ofString "__str__") 519) :: (Value.str (Str.ofString "URIVariable.__str__") 520) :: (Value.str (Str.ofString "/claim/cut.py") 521) :: (Value.int 141 0) :: (Value.int 1 0) :: (Value.int 0 0) :: (Value.int 0 0) :: (Value.int 3 0) :: (Value.ref 217) :: (Value.bool true) :: (Value.int 181 0) :: (Value.ref 218) :: (Value.none) :: (Value.ref 219) :: (Value.ref 220) :: (Value.ref 221) :: (Value.int 523 0) :: (Value.int 141 0) :: (Value.str (Str.ofString "/claim/cut.py") 524) :: [])) }) ::
  (nat_lit 223, { cls := Value.type "function", data := Data.func { name := Str.ofString "__str__", qualname := Str.ofString "URIVariable.__str__", params := fa_10_2, body := FuncBody.stmts fb_10_2, scope := fs_10_2, globals := 3, closure := [], defaults := Value.none, kwdefaults := Value.none, pyModule := Value.str (Str.ofString "uritemplate.variable") 328, code := Value.ref 222 } }) ::
  (nat_lit 224, { cls := Value.type "tuple", data := Data.seq #[] }) ::
  (nat_lit 227, { cls := Value.type "code", data := Data.fields (List.toArray ((Value.str (Str.ofString "parse") 526) :: (Value.str (Str.ofString "URIVariable.parse") 527) :: (Value.str (Str.ofString "/claim/cut.py") 528) :: (Value.int 144 0) :: (Value.int 1 0) :: (Value.int 0 0) :: (Value.int 0 0) :: (Value.int 3 0) :: (Value.ref 224) :: (Value.bool true) :: (Value.int 181 0) :: (Value.ref 225) :: (Value.none) :: (Value.none) :: (Value.none) :: (Value.ref 226) :: (Value.int 529 0) :: (Value.int 144 0) :: (Value.str (Str.ofString "/claim/cut.py") 530) :: [])) }) ::
  (nat_lit 228, { cls := Value.type "function", data := Data.func { name := Str.ofString "parse", qualname := Str.ofString "URIVariable.parse", params := fa_10_3, body := FuncBody.stmts fb_10_3, scope := fs_10_3, globals := 3, closure := [], defaults := Value.none, kwdefaults := Value.none, pyModule := Value.str (Str.ofString "uritemplate.variable") 328, code := Value.ref 227 } }) ::
  (nat_lit 229, { cls := Value.type "tuple", data := Data.seq #[] }) ::
  (nat_lit 231, { cls := Value.type "tuple", data := Data.seq (List.toArray ((Value.str (Str.ofString "self") 535) :: (Value.str (Str.ofString "name") 536) :: (Value.str (Str.ofString "value") 537) :: (Value.str (Str.ofString "explode") 538) :: (Value.str (Str.ofString "prefix") 539) :: (Value.str (Str.ofString "tuples") 540) :: (Value.str (Str.ofString "items") 541) :: [])) }) ::
  (nat_lit 232, { cls := Value.type "tuple", data := Data.seq (List.toArray ((Value.str (Str.ofString "self") 542) :: (Value.str (Str.ofString "name") 543) :: (Value.str (Str.ofString "safe") 544) :: [])) }) ::
  (nat_lit 234, { cls := Value.type "code", data := Data.fields (List.toArray ((Value.str (Str.ofString "_query_expansion") 532) :: (Value.str (Str.ofString "URIVariable._query_expansion") 533) :: (Value.str (Str.ofString "/claim/cut.py") 534) :: (Value.int 167 0) :: (Value.int 5 0) :: (Value.int 0 0) :: (Value.int 0 0) :: (Value.int 3 0) :: (Value.ref 229) :: (Value.bool true) :: (Value.int 181 0) :: (Value.ref 230) :: (Value.none) :: (Value.ref 231) :: (Value.ref 232) :: (Value.ref 233) :: (Value.int 545 0) :: (Value.int 167 0) :: (Value.str (Str.ofString "/claim/cut.py") 546) :: [])) }) ::
  (nat_lit 235, { cls := Value.type "function", data := Data.func { name := Str.ofString "_query_expansion", qualname := Str.ofString "URIVariable._query_expansion", params := fa_10_4, body := FuncBody.stmts fb_10_4, scope := fs_10_4, globals := 3, closure := [], defaults := Value.none, kwdefaults := Value.none, pyModule := Value.str (Str.ofString "uritemplate.variable") 328, code := Value.ref 234 } }) ::
  (nat_lit 236, { cls := Value.type "tuple", data := Data.seq #[] }) ::
  (nat_lit 239, { cls := Value.type "code", data := Data.fields (List.toArray ((Value.str (Str.ofString "_label_path_expansion") 548) :: (Value.str (Str.ofString "URIVariable._label_path_expansion") 549) :: (Value.str (Str.ofString "/claim/cut.py") 550) :: (Value.int 194 0) :: (Value.int 5 0) :: (Value.int 0 0) :: (Value.int 0 0) :: (Value.int 3 0) :: (Value.ref 236) :: (Value.bool true) :: (Value.int 181 0) :: (Value.ref 237) :: (Value.none) :: (Value.none) :: (Value.none) :: (Value.ref 238) :: (Value.int 551 0) :: (Value.int 194 0) :: (Value.str (Str.ofString "/claim/cut.py") 552) :: [])) }) ::
  (nat_lit 240, { cls := Value.type "function", data := Data.func { name := Str.ofString "_label_path_expansion", qualname := Str.ofString "URIVariable._label_path_expansion", params := fa_10_5, body := FuncBody.stmts fb_10_5, scope := fs_10_5, globals := 3, closure := [], defaults := Value.none, kwdefaults := Value.none, pyModule := Value.str (Str.ofString "uritemplate.variable") 328, code := Value.ref 239 } }) ::
  (nat_lit 241, { cls := Value.type "tuple", data := Data.seq #[] }) ::
  (nat_lit 243, { cls := Value.type "tuple", data := Data.seq (List.toArray ((Value.str (Str.ofString "self") 557) :: (Value.str (Str.ofString "name") 558) :: (Value.str (Str.ofString "value") 559) :: (Value.str (Str.ofString "explode") 560) :: (Value.str (Str.ofString "prefix") 561) :: (Value.str (Str.ofString "join_str") 562) :: (Value.str (Str.ofString "tuples") 563) :: (Value.str (Str.ofString "items") 564) :: (Value.str (Str.ofString "expanded") 565) :: [])) }) ::
  (nat_lit 244, { cls := Value.type "tuple", data := Data.seq (List.toArray ((Value.str (Str.ofString "self") 566) :: (Value.str (Str.ofString "name") 567) :: (Value.str (Str.ofString "safe") 568) :: [])) }) ::
  (nat_lit 246, { cls := Value.type "code", data := Data.fields (List.toArray ((Value.str (Str.ofString "_semi_path_expansion") 554) :: (Value.str (Str.ofString "URIVariable._semi_path_expansion") 555) :: (Value.str (Str.ofString "/claim/cut.py") 556) :: (Value.int 216 0) :: (Value.int 5 0) :: (Value.int 0 0) :: (Value.int 0 0) :: (Value.int 3 0) :: (Value.ref 241) :: (Value.bool true) :: (Value.int 181 0) :: (Value.ref 242) :: (Value.none) :: (Value.ref 243) :: (Value.ref 244) :: (Value.ref 245) :: (Value.int 569 0) :: (Value.int 216 0) :: (Value.str (Str.ofString "/claim/cut.py") 570) :: [])) }) ::
  (nat_lit 247, { cls := Value.type "function", data := Data.func { name := Str.ofString "_semi_path_expansion", qualname := Str.ofString "URIVariable._semi_path_expansion", params := fa_10_6, body := FuncBody.stmts fb_10_6, scope := fs_10_6, globals := 3, closure := [], defaults := Value.none, kwdefaults := Value.none, pyModule := Value.str (Str.ofString "uritemplate.variable") 328, code := Value.ref 246 } }) ::
  (nat_lit 248, { cls := Value.type "tuple", data := Data.seq #[] }) ::
  (nat_lit 250, { cls := Value.type "tuple", data := Data.seq (List.toArray ((Value.str (Str.ofString "self") 575) :: (Value.str (Str.ofString "name") 576) :: (Value.str (Str.ofString "value") 577) :: (Value.str (Str.ofString "explode") 578) :: (Value.str (Str.ofString "prefix") 579) :: (Value.str (Str.ofString "tuples") 580) :: (Value.str (Str.ofString "items") 581) :: [])) }) ::
  (nat_lit 251, { cls := Value.type "tuple", data := Data.seq (List.toArray ((Value.str (Str.ofString "self") 582) :: (Value.str (Str.ofString "format_str") 583) :: [])) }) ::
  (nat_lit 253, { cls := Value.type "code", data := Data.fields (List.toArray ((Value.str (Str.ofString "_string_expansion") 572) :: (Value.str (Str.ofString "URIVariable._string_expansion") 573) :: (Value.str (Str.ofString "/claim/cut.py") 574) :: (Value.int 241 0) :: (Value.int 5 0) :: (Value.int 0 0) :: (Value.int 0 0) :: (Value.int 3 0) :: (Value.ref 248) :: (Value.bool true) :: (Value.int 181 0) :: (Value.ref 249) :: (Value.none) :: (Value.ref 250) :: (Value.ref 251) :: (Value.ref 252) :: (Value.int 584 0) :: (Value.int 241 0) :: (Value.str (Str.ofString "/claim/cut.py") 585) :: [])) }) ::
  (nat_lit 254, { cls := Value.type "function", data := Data.func { name := Str.ofString "_string_expansion", qualname := Str.ofString "URIVariable._string_expansion", params := fa_10_7, body := FuncBody.stmts fb_10_7, scope := fs_10_7, globals := 3, closure := [], defaults := Value.none, kwdefaults := Value.none, pyModule := Value.str (Str.ofString "uritemplate.variable") 328, code := Value.ref 253 } }) ::
  (nat_lit 255, { cls := Value.type "tuple", data := Data.seq (List.toArray ((Value.none) :: [])) }) ::
  (nat_lit 256, { cls := Value.type "tuple", data := Data.seq #[] }) ::
  (nat_lit 258, { cls := Value.type "tuple", data := Data.seq (List.toArray ((Value.str (Str.ofString "self") 590) :: (Value.str (Str.ofString "var_dict") 591) :: (Value.str (Str.ofString "return_values") 592) :: (Value.str (Str.ofString "name") 593) :: (Value.str (Str.ofString "opts") 594) :: (Value.str (Str.ofString "value") 595) :: (Value.str (Str.ofString "expanded") 596) :: [])) }) ::
  (nat_lit 259, { cls := Value.type "tuple", data := Data.seq #[] }) ::
  (nat_lit 261, { cls := Value.type "code", data := Data.fields (List.toArray ((Value.str (Str.ofString "expand") 587) :: (Value.str (Str.ofString "URIVariable.expand") 588) :: (Value.str (Str.ofString "/claim/cut.py") 589) :: (Value.int 254 0) :: (Value.int 2 0) :: (Value.int 0 0) :: (Value.int 0 0) :: (Value.int 3 0) :: (Value.ref 256) :: (Value.bool true) :: (Value.int 181 0) :: (Value.ref 257) :: (Value.none) :: (Value.ref 258) :: (Value.ref 259) :: (Value.ref 260) :: (Value.int 597 0) :: (Value.int 254 0) :: (Value.str (Str.ofString "/claim/cut.py") 598) :: [])) }) ::
  (nat_lit 262, { cls := Value.type "function", data := Data.func { name := Str.ofString "expand", qualname := Str.ofString "URIVariable.expand", params := fa_10_8, body := FuncBody.stmts fb_10_8, scope := fs_10_8, globals := 3, closure := [], defaults := Value.ref 255, kwdefaults := Value.none, pyModule := Value.str (Str.ofString "uritemplate.variable") 328, code := Value.ref 261 } }) ::
  (nat_lit 263, { cls := Value.type "tuple", data := Data.seq (List.toArray ((Value.str (Str.ofString "defaults") 600) :: (Value.str (Str.ofString "operator") 601) :: (Value.str (Str.ofString "original") 602) :: (Value.str (Str.ofString "variable_names") 603) :: (Value.str (Str.ofString "variables") 604) :: [])) }) ::
  (nat_lit 264, { cls := Value.type "dict", data := Data.dict (List.toArray ({ hash := PyData.keyHash P (Str.ofString "__module__"), key := Value.str (Str.ofString "__module__") 499, val := Value.str (Str.ofString "uritemplate.variable") 328 } :: { hash := PyData.keyHash P (Str.ofString "__firstlineno__"), key := Value.str (Str.ofString "__firstlineno__") 503, val := Value.int 128 502 } :: { hash := PyData.keyHash P (Str.ofString "__init__"), key := Value.str (Str.ofString "__init__") 511, val := Value.ref 209 } :: { hash := PyData.keyHash P (Str.ofString "__repr__"), key := Value.str (Str.ofString "__repr__") 518, val := Value.ref 216 } :: { hash := PyData.keyHash P (Str.ofString "__str__"), key := Value.str (Str.ofString "__str__") 525, val := Value.ref 223 } :: { hash := PyData.keyHash P (Str.ofString "parse"), key := Value.str (Str.ofString "parse") 531, val := Value.ref 228 } :: { hash := PyData.keyHash P (Str.ofString "_query_expansion"), key := Value.str (Str.ofString "_query_expansion") 547, val := Value.ref 235 } :: { hash := PyData.keyHash P (Str.ofString "_label_path_expansion"), key := Value.str (Str.ofString "_label_path_expansion") 553, val := Value.ref 240 } :: { hash := PyData.keyHash P (Str.ofString "_semi_path_expansion"), key := Value.str (Str.ofString "_semi_path_expansion") 571, val := Value.ref 247 } :: { hash := PyData.keyHash P (Str.ofString "_string_expansion"), key := Value.str (Str.ofString "_string_expansion") 586, val := Value.ref 254 } :: { hash := PyData.keyHash P (Str.ofString "expand"), key := Value.str (Str.ofString "expand") 599, val := Value.ref 262 } :: { hash := PyData.keyHash P (Str.ofString "__static_attributes__"), key := Value.str (Str.ofString "__static_attributes__") 605, val := Value.ref 263 } :: { hash := PyData.keyHash P (Str.ofString "__dict__"), key := Value.str (Str.ofString "__dict__") 607, val := Value.ref 266 } :: { hash := PyData.keyHash P (Str.ofString "__weakref__"), key := Value.str (Str.ofString "__weakref__") 609, val := Value.ref 267 } :: { hash := PyData.keyHash P (Str.ofString "__doc__"), key := Value.str (Str.ofString "__doc__") 610, val := Value.none } :: [])) 4 }) ::
  (nat_lit 265, { cls := Value.type "type", data := Data.cls { name := Str.ofString "URIVariable", bases := [Value.type "object"], mro := [Value.ref 265, Value.type "object"], ns := 264, qualname := Str.ofString "URIVariable" }, slots := (List.toArray ((none) :: (none) :: (some (Value.str (Str.ofString "URIVariable") 492)) :: (some (Value.str (Str.ofString "URIVariable") 500)) :: (some (Value.builtin "object.__new__")) :: (some (Value.bool true)) :: [])) }) ::
  (nat_lit 266, { cls := Value.type "getset_descriptor", data := Data.fields (List.toArray ((Value.str (Str.ofString "__dict__") 606) :: (Value.ref 265) :: (Value.builtin "function.__dict__") :: (Value.builtin "function.__dict__#set") :: [])) }) ::
  (nat_lit 267, { cls := Value.type "getset_descriptor", data := Data.fields (List.toArray ((Value.str (Str.ofString "__weakref__") 608) :: (Value.ref 265) :: (Value.builtin "ExceptionGroup.__weakref__") :: (Value.none) :: [])) }) ::
  (nat_lit 270, { cls := Value.type "tuple", data := Data.seq #[] }) ::
  (nat_lit 272, { cls := Value.type "tuple", data := Data.seq (List.toArray ((Value.str (Str.ofString "value") 616) :: [])) }) ::
  (nat_lit 273, { cls := Value.type "tuple", data := Data.seq #[] }) ::
  (nat_lit 275, { cls := Value.type "code", data := Data.fields (List.toArray ((Value.str (Str.ofString "is_list_of_tuples") 613) :: (Value.str (Str.ofString "is_list_of_tuples") 614) :: (Value.str (Str.ofString "/claim/cut.py") 615) :: (Value.int 279 0) :: (Value.int 1 0) :: (Value.int 0 0) :: (Value.int 0 0) :: (Value.int 3 0) :: (Value.ref 270) :: (Value.bool true) :: (Value.int 181 0) :: (Value.ref 271) :: (Value.none) :: (Value.ref 272) :: (Value.ref 273) :: (Value.ref 274) :: (Value.int 617 0) :: (Value.int 279 0) :: (Value.str (Str.ofString "/claim/cut.py") 618) :: [])) }) ::
  (nat_lit 276, { cls := Value.type "function", data := Data.func { name := Str.ofString "is_list_of_tuples", qualname := Str.ofString "is_list_of_tuples", params := fa_11, body := FuncBody.stmts fb_11, scope := fs_11, globals := 3, closure := [], defaults := Value.none, kwdefaults := Value.none, pyModule := Value.str (Str.ofString "uritemplate.variable") 328, code := Value.ref 275 } }) ::
  (nat_lit 277, { cls := Value.type "tuple", data := Data.seq #[] }) ::
  (nat_lit 279, { cls := Value.type "tuple", data := Data.seq (List.toArray ((Value.str (Str.ofString "value") 623) :: [])) }) ::
  (nat_lit 280, { cls := Value.type "tuple", data := Data.seq #[] }) ::
  (nat_lit 282, { cls := Value.type "code", data := Data.fields (List.toArray ((Value.str (Str.ofString "list_test") 620) :: (Value.str (Str.ofString "list_test") 621) :: (Value.str (Str.ofString "/claim/cut.py") 622) :: (Value.int 283 0) :: (Value.int 1 0) :: (Value.int 0 0) :: (Value.int 0 0) :: (Value.int 3 0) :: (Value.ref 277) :: (Value.bool true) :: (Value.int 181 0) :: (Value.ref 278) :: (Value.none) :: (Value.ref 279) :: (Value.ref 280) :: (Value.ref 281) :: (Value.int 624 0) :: (Value.int 283 0) :: (Value.str (Str.ofString "/claim/cut.py") 625) :: [])) }) ::
  (nat_lit 283, { cls := Value.type "function", data := Data.func { name := Str.ofString "list_test", qualname := Str.ofString "list_test", params := fa_12, body := FuncBody.stmts fb_12, scope := fs_12, globals := 3, closure := [], defaults := Value.none, kwdefaults := Value.none, pyModule := Value.str (Str.ofString "uritemplate.variable") 328, code := Value.ref 282 } }) ::
  (nat_lit 284, { cls := Value.type "tuple", data := Data.seq #[] }) ::
  (nat_lit 286, { cls := Value.type "tuple", data := Data.seq (List.toArray ((Value.str (Str.ofString "value") 630) :: [])) }) ::
  (nat_lit 287, { cls := Value.type "tuple", data := Data.seq #[] }) ::
  (nat_lit 289, { cls := Value.type "code", data := Data.fields (List.toArray ((Value.str (Str.ofString "dict_test") 627) :: (Value.str (Str.ofString "dict_test") 628) :: (Value.str (Str.ofString "/claim/cut.py") 629) :: (Value.int 285 0) :: (Value.int 1 0) :: (Value.int 0 0) :: (Value.int 0 0) :: (Value.int 3 0) :: (Value.ref 284) :: (Value.bool true) :: (Value.int 181 0) :: (Value.ref 285) :: (Value.none) :: (Value.ref 286) :: (Value.ref 287) :: (Value.ref 288) :: (Value.int 631 0) :: (Value.int 285 0) :: (Value.str (Str.ofString "/claim/cut.py") 632) :: [])) }) ::
  (nat_lit 290, { cls := Value.type "function", data := Data.func { name := Str.ofString "dict_test", qualname := Str.ofString "dict_test", params := fa_13, body := FuncBody.stmts fb_13, scope := fs_13, globals := 3, closure := [], defaults := Value.none, kwdefaults := Value.none, pyModule := Value.str (Str.ofString "uritemplate.variable") 328, code := Value.ref 289 } }) ::
  (nat_lit 291, { cls := Value.type "tuple", data := Data.seq #[] }) ::
  (nat_lit 293, { cls := Value.type "tuple", data := Data.seq (List.toArray ((Value.str (Str.ofString "value") 637) :: [])) }) ::
  (nat_lit 294, { cls := Value.type "tuple", data := Data.seq #[] }) ::
  (nat_lit 296, { cls := Value.type "code", data := Data.fields (List.toArray ((Value.str (Str.ofString "_encode") 634) :: (Value.str (Str.ofString "_encode") 635) :: (Value.str (Str.ofString "/claim/cut.py") 636) :: (Value.int 287 0) :: (Value.int 1 0) :: (Value.int 0 0) :: (Value.int 0 0) :: (Value.int 3 0) :: (Value.ref 291) :: (Value.bool true) :: (Value.int 181 0) :: (Value.ref 292) :: (Value.none) :: (Value.ref 293) :: (Value.ref 294) :: (Value.ref 295) :: (Value.int 638 0) :: (Value.int 287 0) :: (Value.str (Str.ofString "/claim/cut.py") 639) :: [])) }) ::
  (nat_lit 297, { cls := Value.type "function", data := Data.func { name := Str.ofString "_encode", qualname := Str.ofString "_encode", params := fa_14, body := FuncBody.stmts fb_14, scope := fs_14, globals := 3, closure := [], defaults := Value.none, kwdefaults := Value.none, pyModule := Value.str (Str.ofString "uritemplate.variable") 328, code := Value.ref 296 } }) ::
  (nat_lit 298, { cls := Value.type "tuple", data := Data.seq #[] }) ::
  (nat_lit 300, { cls := Value.type "tuple", data := Data.seq (List.toArray ((Value.str (Str.ofString "value") 644) :: (Value.str (Str.ofString "safe") 645) :: [])) }) ::
  (nat_lit 301, { cls := Value.type "tuple", data := Data.seq #[] }) ::
  (nat_lit 303, { cls := Value.type "code", data := Data.fields (List.toArray ((Value.str (Str.ofString "quote") 641) :: (Value.str (Str.ofString "quote") 642) :: (Value.str (Str.ofString "/claim/cut.py") 643) :: (Value.int 291 0) :: (Value.int 2 0) :: (Value.int 0 0) :: (Value.int 0 0) :: (Value.int 3 0) :: (Value.ref 298) :: (Value.bool true) :: (Value.int 181 0) :: (Value.ref 299) :: (Value.none) :: (Value.ref 300) :: (Value.ref 301) :: (Value.ref 302) :: (Value.int 646 0) :: (Value.int 291 0) :: (Value.str (Str.ofString "/claim/cut.py") 647) :: [])) }) ::
  (nat_lit 304, { cls := Value.type "function", data := Data.func { name := Str.ofString "quote", qualname := Str.ofString "quote", params := fa_15, body := FuncBody.stmts fb_15, scope := fs_15, globals := 3, closure := [], defaults := Value.none, kwdefaults := Value.none, pyModule := Value.str (Str.ofString "uritemplate.variable") 328, code := Value.ref 303 } }) ::
  (nat_lit 305, { cls := Value.type "tuple", data := Data.seq #[] }) ::
  (nat_lit 307, { cls := Value.type "tuple", data := Data.seq (List.toArray ((Value.str (Str.ofString "octets") 653) :: (Value.str (Str.ofString "safe") 654) :: (Value.str (Str.ofString "parts") 655) :: (Value.str (Str.ofString "octet") 656) :: (Value.str (Str.ofString "sign") 657) :: [])) }) ::
  (nat_lit 308, { cls := Value.type "tuple", data := Data.seq #[] }) ::
  (nat_lit 310, { cls := Value.type "code", data := Data.fields (List.toArray ((Value.str (Str.ofString "quote_from_bytes") 650) :: (Value.str (Str.ofString "quote_from_bytes") 651) :: (Value.str (Str.ofString "/claim/cut.py") 652) :: (Value.int 296 0) :: (Value.int 2 0) :: (Value.int 0 0) :: (Value.int 0 0) :: (Value.int 3 0) :: (Value.ref 305) :: (Value.bool true) :: (Value.int 181 0) :: (Value.ref 306) :: (Value.none) :: (Value.ref 307) :: (Value.ref 308) :: (Value.ref 309) :: (Value.int 658 0) :: (Value.int 296 0) :: (Value.str (Str.ofString "/claim/cut.py") 659) :: [])) }) ::
  (nat_lit 311, { cls := Value.type "function", data := Data.func { name := Str.ofString "quote_from_bytes", qualname := Str.ofString "quote_from_bytes", params := fa_17, body := FuncBody.stmts fb_17, scope := fs_17, globals := 3, closure := [], defaults := Value.none, kwdefaults := Value.none, pyModule := Value.str (Str.ofString "uritemplate.variable") 328, code := Value.ref 310 } }) ::
  (nat_lit 312, { cls := Value.type "tuple", data := Data.seq #[] }) ::
  (nat_lit 314, { cls := Value.type "tuple", data := Data.seq (List.toArray ((Value.str (Str.ofString "value") 664) :: (Value.str (Str.ofString "part") 665) :: [])) }) ::
  (nat_lit 315, { cls := Value.type "tuple", data := Data.seq #[] }) ::
  (nat_lit 317, { cls := Value.type "code", data := Data.fields (List.toArray ((Value.str (Str.ofString "_holds_triplet") 661) :: (Value.str (Str.ofString "_holds_triplet") 662) :: (Value.str (Str.ofString "/claim/cut.py") 663) :: (Value.int 305 0) :: (Value.int 1 0) :: (Value.int 0 0) :: (Value.int 0 0) :: (Value.int 3 0) :: (Value.ref 312) :: (Value.bool true) :: (Value.int 181 0) :: (Value.ref 313) :: (Value.none) :: (Value.ref 314) :: (Value.ref 315) :: (Value.ref 316) :: (Value.int 666 0) :: (Value.int 305 0) :: (Value.str (Str.ofString "/claim/cut.py") 667) :: [])) }) ::
  (nat_lit 318, { cls := Value.type "function", data := Data.func { name := Str.ofString "_holds_triplet", qualname := Str.ofString "_holds_triplet", params := fa_18, body := FuncBody.stmts fb_18, scope := fs_18, globals := 3, closure := [], defaults := Value.none, kwdefaults := Value.none, pyModule := Value.str (Str.ofString "uritemplate.variable") 328, code := Value.ref 317 } }) ::
  (nat_lit 319, { cls := Value.type "tuple", data := Data.seq #[] }) ::
  (nat_lit 321, { cls := Value.type "tuple", data := Data.seq (List.toArray ((Value.str (Str.ofString "uri") 674) :: (Value.str (Str.ofString "found") 675) :: (Value.str (Str.ofString "start") 676) :: (Value.str (Str.ofString "place") 677) :: (Value.str (Str.ofString "sign") 678) :: [])) }) ::
  (nat_lit 322, { cls := Value.type "tuple", data := Data.seq #[] }) ::
  (nat_lit 324, { cls := Value.type "code", data := Data.fields (List.toArray ((Value.str (Str.ofString "_expressions") 671) :: (Value.str (Str.ofString "_expressions") 672) :: (Value.str (Str.ofString "/claim/cut.py") 673) :: (Value.int 311 0) :: (Value.int 1 0) :: (Value.int 0 0) :: (Value.int 0 0) :: (Value.int 3 0) :: (Value.ref 319) :: (Value.bool true) :: (Value.int 181 0) :: (Value.ref 320) :: (Value.none) :: (Value.ref 321) :: (Value.ref 322) :: (Value.ref 323) :: (Value.int 679 0) :: (Value.int 311 0) :: (Value.str (Str.ofString "/claim/cut.py") 680) :: [])) }) ::
  (nat_lit 325, { cls := Value.type "function", data := Data.func { name := Str.ofString "_expressions", qualname := Str.ofString "_expressions", params := fa_20, body := FuncBody.stmts fb_20, scope := fs_20, globals := 3, closure := [], defaults := Value.none, kwdefaults := Value.none, pyModule := Value.str (Str.ofString "uritemplate.template") 669, code := Value.ref 324 } }) ::
  (nat_lit 326, { cls := Value.type "tuple", data := Data.seq #[] }) ::
  (nat_lit 328, { cls := Value.type "tuple", data := Data.seq (List.toArray ((Value.str (Str.ofString "var_dict") 685) :: (Value.str (Str.ofString "overrides") 686) :: (Value.str (Str.ofString "opts") 687) :: [])) }) ::
  (nat_lit 329, { cls := Value.type "tuple", data := Data.seq #[] }) ::
  (nat_lit 331, { cls := Value.type "code", data := Data.fields (List.toArray ((Value.str (Str.ofString "_merge") 682) :: (Value.str (Str.ofString "_merge") 683) :: (Value.str (Str.ofString "/claim/cut.py") 684) :: (Value.int 323 0) :: (Value.int 2 0) :: (Value.int 0 0) :: (Value.int 0 0) :: (Value.int 3 0) :: (Value.ref 326) :: (Value.bool true) :: (Value.int 181 0) :: (Value.ref 327) :: (Value.none) :: (Value.ref 328) :: (Value.ref 329) :: (Value.ref 330) :: (Value.int 688 0) :: (Value.int 323 0) :: (Value.str (Str.ofString "/claim/cut.py") 689) :: [])) }) ::
  (nat_lit 332, { cls := Value.type "function", data := Data.func { name := Str.ofString "_merge", qualname := Str.ofString "_merge", params := fa_21, body := FuncBody.stmts fb_21, scope := fs_21, globals := 3, closure := [], defaults := Value.none, kwdefaults := Value.none, pyModule := Value.str (Str.ofString "uritemplate.template") 669, code := Value.ref 331 } }) ::
  (nat_lit 340, { cls := Value.type "tuple", data := Data.seq #[] }) ::
  (nat_lit 343, { cls := Value.type "code", data := Data.fields (List.toArray ((Value.str (Str.ofString "__init__") 703) :: (Value.str (Str.ofString "URITemplate.__init__") 704) :: (Value.str (Str.ofString "/claim/cut.py") 705) :: (Value.int 331 0) :: (Value.int 2 0) :: (Value.int 0 0) :: (Value.int 0 0) :: (Value.int 3 0) :: (Value.ref 340) :: (Value.bool true) :: (Value.int 181 0) :: (Value.ref 341) :: (Value.none) :: (Value.none) :: (Value.none) :: (Value.ref 342) :: (Value.int 706 0) :: (Value.int 331 0) :: (Value.str (Str.ofString "/claim/cut.py") 707) :: [])) }) ::
  (nat_lit 344, { cls := Value.type "function", data := Data.func { name := Str.ofString "__init__", qualname := Str.ofString "URITemplate.__init__", params := fa_22_0, body := FuncBody.stmts fb_22_0, scope := fs_22_0, globals := 3, closure := [], defaults := Value.none, kwdefaults := Value.none, pyModule := Value.str (Str.ofString "uritemplate.template") 669, code := Value.ref 343 } }) ::
  (nat_lit 345, { cls := Value.type "tuple", data := Data.seq #[] }) ::
  (nat_lit 347, { cls := Value.type "tuple", data := Data.seq (List.toArray ((Value.str (Str.ofString "self") 712) :: [])) }) ::
  (nat_lit 348, { cls := Value.type "tuple", data := Data.seq #[] }) ::
  (nat_lit 350, { cls := Value.type "code", data := Data.fields (List.toArray ((Value.str (Str.ofString "__repr__") 709) :: (Value.str (Str.ofString "URITemplate.__repr__") 710) :: (Value.str (Str.ofString "/claim/cut.py") 711) :: (Value.int 339 0) :: (Value.int 1 0) :: (Value.int 0 0) :: (Value.int 0 0) :: (Value.int 3 0) :: (Value.ref 345) :: (Value.bool true) :: (Value.int 181 0) :: (Value.ref 346) :: (Value.none) :: (Value.ref 347) :: (Value.ref 348) :: (Value.ref 349) :: (Value.int 713 0) :: (Value.int 339 0) :: (Value.str (Str.ofString "/claim/cut.py") 714) :: [])) }) ::
  (nat_lit 351, { cls := Value.type "function", data := Data.func { name := Str.ofString "__repr__", qualname := Str.ofString "URITemplate.__repr__", params := fa_22_1, body := FuncBody.stmts fb_22_1, scope := fs_22_1, globals := 3, closure := [], defaults := Value.none, kwdefaults := Value.none, pyModule := Value.str (Str.ofString "uritemplate.template") 669, code := Value.ref 350 } }) ::
  (nat_lit 352, { cls := Value.type "tuple", data := Data.seq #[] }) ::
  (nat_lit 354, { cls := Value.type "tuple", data := Data.seq (List.toArray ((Value.str (Str.ofString "self") 719) :: [])) }) ::
  (nat_lit 355, { cls := Value.type "tuple", data := Data.seq #[] }) ::
  (nat_lit 357, { cls := Value.type "code", data := Data.fields (List.toArray ((Value.str (Str.ofString "__str__") 716) :: (Value.str (Str.ofString "URITemplate.__str__") 717) :: (Value.str (Str.ofString "/claim/cut.py") 718) :: (Value.int 342 0) :: (Value.int 1 0) :: (Value.int 0 0) :: (Value.int 0 0) :: (Value.int 3 0) :: (Value.ref 352) :: (Value.bool true) :: (Value.int 181 0) :: (Value.ref 353) :: (Value.none) :: (Value.ref 354) :: (Value.ref 355) :: (Value.ref 356) :: (Value.int 720 0) :: (Value.int 342 0) :: (Value.str (Str.ofString "/claim/cut.py") 721) :: [])) }) ::
  (nat_lit 358, { cls := Value.type "function", data := Data.func { name := Str.ofString "__str__", qualname := Str.ofString "URITemplate.__str__", params := fa_22_2, body := FuncBody.stmts fb_22_2, scope := fs_22_2, globals := 3, closure := [], defaults := Value.none, kwdefaults := Value.none, pyModule := Value.str (Str.ofString "uritemplate.template") 669, code := Value.ref 357 } }) ::
  (nat_lit 359, { cls := Value.type "tuple", data := Data.seq #[] }) ::
  (nat_lit 361, { cls := Value.type "tuple", data := Data.seq (List.toArray ((Value.str (Str.ofString "self") 726) :: (Value.str (Str.ofString "other") 727) :: [])) }) ::
  (nat_lit 362, { cls := Value.type "tuple", data := Data.seq #[] }) ::
  (nat_lit 364, { cls := Value.type "code", data := Data.fields (List.toArray ((Value.str (Str.ofString "__eq__") 723) :: (Value.str (Str.ofString "URITemplate.__eq__") 724) :: (Value.str (Str.ofString "/claim/cut.py") 725) :: (Value.int 345 0) :: (Value.int 2 0) :: (Value.int 0 0) :: (Value.int 0 0) :: (Value.int 3 0) :: (Value.ref 359) :: (Value.bool true) :: (Value.int 181 0) :: (Value.ref 360) :: (Value.none) :: (Value.ref 361) :: (Value.ref 362) :: (Value.ref 363) :: (Value.int 728 0) :: (Value.int 345 0) :: (Value.str (Str.ofString "/claim/cut.py") 729) :: [])) }) ::
  (nat_lit 365, { cls := Value.type "function", data := Data.func { name := Str.ofString "__eq__", qualname := Str.ofString "URITemplate.__eq__", params := fa_22_3, body := FuncBody.stmts fb_22_3, scope := fs_22_3, globals := 3, closure := [], defaults := Value.none, kwdefaults := Value.none, pyModule := Value.str (Str.ofString "uritemplate.template") 669, code := Value.ref 364 } }) ::
  (nat_lit 366, { cls := Value.type "tuple", data := Data.seq #[] }) ::
  (nat_lit 368, { cls := Value.type "tuple", data := Data.seq (List.toArray ((Value.str (Str.ofString "self") 734) :: (Value.str (Str.ofString "var_dict") 735) :: (Value.str (Str.ofString "replace") 736) :: (Value.str (Str.ofString "expansion") 737) :: (Value.str (Str.ofString "expanded") 738) :: (Value.str (Str.ofString "v") 739) :: (Value.str (Str.ofString "parts") 740) :: (Value.str (Str.ofString "place") 741) :: (Value.str (Str.ofString "start") 742) :: (Value.str (Str.ofString "end") 743) :: (Value.str (Str.ofString "match_group") 744) :: (Value.str (Str.ofString "var") 745) :: [])) }) ::
  (nat_lit 369, { cls := Value.type "tuple", data := Data.seq #[] }) ::
  (nat_lit 371, { cls := Value.type "code", data := Data.fields (List.toArray ((Value.str (Str.ofString "_expand") 731) :: (Value.str (Str.ofString "URITemplate._expand") 732) :: (Value.str (Str.ofString "/claim/cut.py") 733) :: (Value.int 350 0) :: (Value.int 3 0) :: (Value.int 0 0) :: (Value.int 0 0) :: (Value.int 3 0) :: (Value.ref 366) :: (Value.bool true) :: (Value.int 181 0) :: (Value.ref 367) :: (Value.none) :: (Value.ref 368) :: (Value.ref 369) :: (Value.ref 370) :: (Value.int 746 0) :: (Value.int 350 0) :: (Value.str (Str.ofString "/claim/cut.py") 747) :: [])) }) ::
  (nat_lit 372, { cls := Value.type "function", data := Data.func { name := Str.ofString "_expand", qualname := Str.ofString "URITemplate._expand", params := fa_22_4, body := FuncBody.stmts fb_22_4, scope := fs_22_4, globals := 3, closure := [], defaults := Value.none, kwdefaults := Value.none, pyModule := Value.str (Str.ofString "uritemplate.template") 669, code := Value.ref 371 } }) ::
  (nat_lit 373, { cls := Value.type "tuple", data := Data.seq (List.toArray ((Value.none) :: (Value.none) :: [])) }) ::
  (nat_lit 374, { cls := Value.type "tuple", data := Data.seq #[] }) ::
  (nat_lit 376, { cls := Value.type "tuple", data := Data.seq (List.toArray ((Value.str (Str.ofString "self") 752) :: (Value.str (Str.ofString "var_dict") 753) :: (Value.str (Str.ofString "kwargs") 754) :: [])) }) ::
  (nat_lit 377, { cls := Value.type "tuple", data := Data.seq #[] }) ::
  (nat_lit 379, { cls := Value.type "code", data := Data.fields (List.toArray ((Value.str (Str.ofString "expand") 749) :: (Value.str (Str.ofString "URITemplate.expand") 750) :: (Value.str (Str.ofString "/claim/cut.py") 751) :: (Value.int 370 0) :: (Value.int 3 0) :: (Value.int 0 0) :: (Value.int 0 0) :: (Value.int 3 0) :: (Value.ref 374) :: (Value.bool true) :: (Value.int 181 0) :: (Value.ref 375) :: (Value.none) :: (Value.ref 376) :: (Value.ref 377) :: (Value.ref 378) :: (Value.int 755 0) :: (Value.int 370 0) :: (Value.str (Str.ofString "/claim/cut.py") 756) :: [])) }) ::
  (nat_lit 380, { cls := Value.type "function", data := Data.func { name := Str.ofString "expand", qualname := Str.ofString "URITemplate.expand", params := fa_22_5, body := FuncBody.stmts fb_22_5, scope := fs_22_5, globals := 3, closure := [], defaults := Value.ref 373, kwdefaults := Value.none, pyModule := Value.str (Str.ofString "uritemplate.template") 669, code := Value.ref 379 } }) ::
  (nat_lit 381, { cls := Value.type "tuple", data := Data.seq (List.toArray ((Value.none) :: (Value.none) :: [])) }) ::
  (nat_lit 382, { cls := Value.type "tuple", data := Data.seq #[] }) ::
  (nat_lit 384, { cls := Value.type "tuple", data := Data.seq (List.toArray ((Value.str (Str.ofString "self") 761) :: (Value.str (Str.ofString "var_dict") 762) :: (Value.str (Str.ofString "kwargs") 763) :: [])) }) ::
  (nat_lit 385, { cls := Value.type "tuple", data := Data.seq #[] }) ::
  (nat_lit 387, { cls := Value.type "code", data := Data.fields (List.toArray ((Value.str (Str.ofString "partial") 758) :: (Value.str (Str.ofString "URITemplate.partial") 759) :: (Value.str (Str.ofString "/claim/cut.py") 760) :: (Value.int 373 0) :: (Value.int 3 0) :: (Value.int 0 0) :: (Value.int 0 0) :: (Value.int 3 0) :: (Value.ref 382) :: (Value.bool true) :: (Value.int 181 0) :: (Value.ref 383) :: (Value.none) :: (Value.ref 384) :: (Value.ref 385) :: (Value.ref 386) :: (Value.int 764 0) :: (Value.int 373 0) :: (Value.str (Str.ofString "/claim/cut.py") 765) :: [])) }) ::
  (nat_lit 388, { cls := Value.type "function", data := Data.func { name := Str.ofString "partial", qualname := Str.ofString "URITemplate.partial", params := fa_22_6, body := FuncBody.stmts fb_22_6, scope := fs_22_6, globals := 3, closure := [], defaults := Value.ref 381, kwdefaults := Value.none, pyModule := Value.str (Str.ofString "uritemplate.template") 669, code := Value.ref 387 } }) ::
  (nat_lit 389, { cls := Value.type "tuple", data := Data.seq (List.toArray ((Value.str (Str.ofString "uri") 767) :: (Value.str (Str.ofString "variable_names") 768) :: (Value.str (Str.ofString "variables") 769) :: [])) }) ::
  (nat_lit 390, { cls := Value.type "dict", data := Data.dict (List.toArray ({ hash := PyData.keyHash P (Str.ofString "__module__"), key := Value.str (Str.ofString "__module__") 698, val := Value.str (Str.ofString "uritemplate.template") 669 } :: { hash := PyData.keyHash P (Str.ofString "__firstlineno__"), key := Value.str (Str.ofString "__firstlineno__") 702, val := Value.int 329 701 } :: { hash := PyData.keyHash P (Str.ofString "__init__"), key := Value.str (Str.ofString "__init__") 708, val := Value.ref 344 } :: { hash := PyData.keyHash P (Str.ofString "__repr__"), key := Value.str (Str.ofString "__repr__") 715, val := Value.ref 351 } :: { hash := PyData.keyHash P (Str.ofString "__str__"), key := Value.str (Str.ofString "__str__") 722, val := Value.ref 358 } :: { hash := PyData.keyHash P (Str.ofString "__eq__"), key := Value.str (Str.ofString "__eq__") 730, val := Value.ref 365 } :: { hash := PyData.keyHash P (Str.ofString "_expand"), key := Value.str (Str.ofString "_expand") 748, val := Value.ref 372 } :: { hash := PyData.keyHash P (Str.ofString "expand"), key := Value.str (Str.ofString "expand") 757, val := Value.ref 380 } :: { hash := PyData.keyHash P (Str.ofString "partial"), key := Value.str (Str.ofString "partial") 766, val := Value.ref 388 } :: { hash := PyData.keyHash P (Str.ofString "__static_attributes__"), key := Value.str (Str.ofString "__static_attributes__") 770, val := Value.ref 389 } :: { hash := PyData.keyHash P (Str.ofString "__dict__"), key := Value.str (Str.ofString "__dict__") 772, val := Value.ref 392 } :: { hash := PyData.keyHash P (Str.ofString "__weakref__"), key := Value.str (Str.ofString "__weakref__") 774, val := Value.ref 393 } :: { hash := PyData.keyHash P (Str.ofString "__doc__"), key := Value.str (Str.ofString "__doc__") 775, val := Value.none } :: { hash := PyData.keyHash P (Str.ofString "__hash__"), key := Value.str (Str.ofString "__hash__") 776, val := Value.none } :: [])) 5 }) ::
  (nat_lit 391, { cls := Value.type "type", data := Data.cls { name := Str.ofString "URITemplate", bases := [Value.type "object"], mro := [Value.ref 391, Value.type "object"], ns := 390, qualname := Str.ofString "URITemplate" }, slots := (List.toArray ((none) :: (none) :: (some (Value.str (Str.ofString "URITemplate") 691)) :: (some (Value.str (Str.ofString "URITemplate") 699)) :: (some (Value.builtin "object.__new__")) :: (some (Value.bool true)) :: [])) }) ::
  (nat_lit 392, { cls := Value.type "getset_descriptor", data := Data.fields (List.toArray ((Value.str (Str.ofString "__dict__") 771) :: (Value.ref 391) :: (Value.builtin "function.__dict__") :: (Value.builtin "function.__dict__#set") :: [])) }) ::
  (nat_lit 393, { cls := Value.type "getset_descriptor", data := Data.fields (List.toArray ((Value.str (Str.ofString "__weakref__") 773) :: (Value.ref 391) :: (Value.builtin "ExceptionGroup.__weakref__") :: (Value.none) :: [])) }) ::
  (nat_lit 396, { cls := Value.type "tuple", data := Data.seq (List.toArray ((Value.none) :: (Value.none) :: [])) }) ::
  (nat_lit 397, { cls := Value.type "tuple", data := Data.seq #[] }) ::
  (nat_lit 399, { cls := Value.type "tuple", data := Data.seq (List.toArray ((Value.str (Str.ofString "uri") 784) :: (Value.str (Str.ofString "var_dict") 785) :: (Value.str (Str.ofString "kwargs") 786) :: [])) }) ::
  (nat_lit 400, { cls := Value.type "tuple", data := Data.seq #[] }) ::
  (nat_lit 402, { cls := Value.type "code", data := Data.fields (List.toArray ((Value.str (Str.ofString "expand") 781) :: (Value.str (Str.ofString "expand") 782) :: (Value.str (Str.ofString "/claim/cut.py") 783) :: (Value.int 376 0) :: (Value.int 3 0) :: (Value.int 0 0) :: (Value.int 0 0) :: (Value.int 3 0) :: (Value.ref 397) :: (Value.bool true) :: (Value.int 181 0) :: (Value.ref 398) :: (Value.none) :: (Value.ref 399) :: (Value.ref 400) :: (Value.ref 401) :: (Value.int 787 0) :: (Value.int 376 0) :: (Value.str (Str.ofString "/claim/cut.py") 788) :: [])) }) ::
  (nat_lit 403, { cls := Value.type "function", data := Data.func { name := Str.ofString "expand", qualname := Str.ofString "expand", params := fa_24, body := FuncBody.stmts fb_24, scope := fs_24, globals := 3, closure := [], defaults := Value.ref 396, kwdefaults := Value.none, pyModule := Value.str (Str.ofString "uritemplate.api") 779, code := Value.ref 402 } }) ::
  (nat_lit 404, { cls := Value.type "tuple", data := Data.seq (List.toArray ((Value.none) :: (Value.none) :: [])) }) ::
  (nat_lit 405, { cls := Value.type "tuple", data := Data.seq #[] }) ::
  (nat_lit 407, { cls := Value.type "tuple", data := Data.seq (List.toArray ((Value.str (Str.ofString "uri") 793) :: (Value.str (Str.ofString "var_dict") 794) :: (Value.str (Str.ofString "kwargs") 795) :: [])) }) ::
  (nat_lit 408, { cls := Value.type "tuple", data := Data.seq #[] }) ::
  (nat_lit 410, { cls := Value.type "code", data := Data.fields (List.toArray ((Value.str (Str.ofString "partial") 790) :: (Value.str (Str.ofString "partial") 791) :: (Value.str (Str.ofString "/claim/cut.py") 792) :: (Value.int 378 0) :: (Value.int 3 0) :: (Value.int 0 0) :: (Value.int 0 0) :: (Value.int 3 0) :: (Value.ref 405) :: (Value.bool true) :: (Value.int 181 0) :: (Value.ref 406) :: (Value.none) :: (Value.ref 407) :: (Value.ref 408) :: (Value.ref 409) :: (Value.int 796 0) :: (Value.int 378 0) :: (Value.str (Str.ofString "/claim/cut.py") 797) :: [])) }) ::
  (nat_lit 411, { cls := Value.type "function", data := Data.func { name := Str.ofString "partial", qualname := Str.ofString "partial", params := fa_25, body := FuncBody.stmts fb_25, scope := fs_25, globals := 3, closure := [], defaults := Value.ref 404, kwdefaults := Value.none, pyModule := Value.str (Str.ofString "uritemplate.api") 779, code := Value.ref 410 } }) ::
  (nat_lit 412, { cls := Value.type "list", data := Data.seq (List.toArray ((Value.str (Str.ofString "a") 801) :: (Value.str (Str.ofString "b") 802) :: (Value.str (Str.ofString "list") 803) :: (Value.str (Str.ofString "x.y") 804) :: [])) }) ::
  (nat_lit 413, { cls := Value.type "tuple", data := Data.seq #[] }) ::
  (nat_lit 415, { cls := Value.type "tuple", data := Data.seq #[] }) ::
  (nat_lit 416, { cls := Value.type "tuple", data := Data.seq #[] }) ::
  (nat_lit 418, { cls := Value.type "code", data := Data.fields (List.toArray ((Value.str (Str.ofString "_law_literals") 806) :: (Value.str (Str.ofString "_law_literals") 807) :: (Value.str (Str.ofString "/claim/cut.py") 808) :: (Value.int 382 0) :: (Value.int 0 0) :: (Value.int 0 0) :: (Value.int 0 0) :: (Value.int 3 0) :: (Value.ref 413) :: (Value.bool true) :: (Value.int 181 0) :: (Value.ref 414) :: (Value.none) :: (Value.ref 415) :: (Value.ref 416) :: (Value.ref 417) :: (Value.int 809 0) :: (Value.int 382 0) :: (Value.str (Str.ofString "/claim/cut.py") 810) :: [])) }) ::
  (nat_lit 419, { cls := Value.type "function", data := Data.func { name := Str.ofString "_law_literals", qualname := Str.ofString "_law_literals", params := fa_28, body := FuncBody.stmts fb_28, scope := fs_28, globals := 3, closure := [], defaults := Value.none, kwdefaults := Value.none, pyModule := Value.str (Str.ofString "law_jv0049_01") 799, code := Value.ref 418 } }) ::
  (nat_lit 420, { cls := Value.type "tuple", data := Data.seq #[] }) ::
  (nat_lit 422, { cls := Value.type "tuple", data := Data.seq (List.toArray ((Value.str (Str.ofString "script") 815) :: (Value.str (Str.ofString "dicts") 816) :: (Value.str (Str.ofString "number") 817) :: (Value.str (Str.ofString "value") 818) :: [])) }) ::
  (nat_lit 423, { cls := Value.type "tuple", data := Data.seq #[] }) ::
  (nat_lit 425, { cls := Value.type "code", data := Data.fields (List.toArray ((Value.str (Str.ofString "_law_dicts") 812) :: (Value.str (Str.ofString "_law_dicts") 813) :: (Value.str (Str.ofString "/claim/cut.py") 814) :: (Value.int 384 0) :: (Value.int 1 0) :: (Value.int 0 0) :: (Value.int 0 0) :: (Value.int 3 0) :: (Value.ref 420) :: (Value.bool true) :: (Value.int 181 0) :: (Value.ref 421) :: (Value.none) :: (Value.ref 422) :: (Value.ref 423) :: (Value.ref 424) :: (Value.int 819 0) :: (Value.int 384 0) :: (Value.str (Str.ofString "/claim/cut.py") 820) :: [])) }) ::
  (nat_lit 426, { cls := Value.type "function", data := Data.func { name := Str.ofString "_law_dicts", qualname := Str.ofString "_law_dicts", params := fa_29, body := FuncBody.stmts fb_29, scope := fs_29, globals := 3, closure := [], defaults := Value.none, kwdefaults := Value.none, pyModule := Value.str (Str.ofString "law_jv0049_01") 799, code := Value.ref 425 } }) ::
  (nat_lit 427, { cls := Value.type "tuple", data := Data.seq #[] }) ::
  (nat_lit 429, { cls := Value.type "tuple", data := Data.seq (List.toArray ((Value.str (Str.ofString "rows") 825) :: (Value.str (Str.ofString "left") 826) :: (Value.str (Str.ofString "due") 827) :: (Value.str (Str.ofString "k") 828) :: (Value.str (Str.ofString "name") 829) :: (Value.str (Str.ofString "value") 830) :: (Value.str (Str.ofString "row") 831) :: [])) }) ::
  (nat_lit 430, { cls := Value.type "tuple", data := Data.seq #[] }) ::
  (nat_lit 432, { cls := Value.type "code", data := Data.fields (List.toArray ((Value.str (Str.ofString "_law_due") 822) :: (Value.str (Str.ofString "_law_due") 823) :: (Value.str (Str.ofString "/claim/cut.py") 824) :: (Value.int 392 0) :: (Value.int 2 0) :: (Value.int 0 0) :: (Value.int 0 0) :: (Value.int 3 0) :: (Value.ref 427) :: (Value.bool true) :: (Value.int 181 0) :: (Value.ref 428) :: (Value.none) :: (Value.ref 429) :: (Value.ref 430) :: (Value.ref 431) :: (Value.int 832 0) :: (Value.int 392 0) :: (Value.str (Str.ofString "/claim/cut.py") 833) :: [])) }) ::
  (nat_lit 433, { cls := Value.type "function", data := Data.func { name := Str.ofString "_law_due", qualname := Str.ofString "_law_due", params := fa_30, body := FuncBody.stmts fb_30, scope := fs_30, globals := 3, closure := [], defaults := Value.none, kwdefaults := Value.none, pyModule := Value.str (Str.ofString "law_jv0049_01") 799, code := Value.ref 432 } }) ::
  (nat_lit 434, { cls := Value.type "tuple", data := Data.seq #[] }) ::
  (nat_lit 437, { cls := Value.type "code", data := Data.fields (List.toArray ((Value.str (Str.ofString "law") 835) :: (Value.str (Str.ofString "law") 836) :: (Value.str (Str.ofString "/claim/cut.py") 837) :: (Value.int 402 0) :: (Value.int 1 0) :: (Value.int 0 0) :: (Value.int 0 0) :: (Value.int 3 0) :: (Value.ref 434) :: (Value.bool true) :: (Value.int 181 0) :: (Value.ref 435) :: (Value.none) :: (Value.none) :: (Value.none) :: (Value.ref 436) :: (Value.int 838 0) :: (Value.int 402 0) :: (Value.str (Str.ofString "/claim/cut.py") 839) :: [])) }) ::
  (nat_lit 438, { cls := Value.type "function", data := Data.func { name := Str.ofString "law", qualname := Str.ofString "law", params := fa_31, body := FuncBody.stmts fb_31, scope := fs_31, globals := 3, closure := [], defaults := Value.none, kwdefaults := Value.none, pyModule := Value.str (Str.ofString "law_jv0049_01") 799, code := Value.ref 437 } }) :: []
noncomputable def KF : Params → Frag := by
  refine (?f : (x : Params → Frag) → x = KRaw → Params → Frag) ?x ?h
  case f => exact fun x _ => x
  case h =>
    delta KRaw
    delta fa_0 fb_0 fs_0 fa_2_0 fb_2_0 fs_2_0 fa_3_0 fb_3_0 fs_3_0 fa_3_1 fb_3_1 fs_3_1 fa_3_2 fb_3_2 fs_3_2 fa_3_3 fb_3_3 fs_3_3 fa_3_4 fb_3_4 fs_3_4 fa_3_5 fb_3_5 fs_3_5 fa_3_6 fb_3_6 fs_3_6 fa_3_7 fb_3_7 fs_3_7 fa_3_8 fb_3_8 fs_3_8 fa_8_13 fb_8_13 fs_8_13 fa_8_14 fb_8_14 fs_8_14 fa_8_15 fb_8_15 fs_8_15 fa_8_16 fb_8_16 fs_8_16 fa_8_17 fb_8_17 fs_8_17 fa_8_18 fb_8_18 fs_8_18 fa_8_19 fb_8_19 fs_8_19 fa_8_20 fb_8_20 fs_8_20 fa_10_0 fb_10_0 fs_10_0 fa_10_1 fb_10_1 fs_10_1 fa_10_2 fb_10_2 fs_10_2 fa_10_3 fb_10_3 fs_10_3 fa_10_4 fb_10_4 fs_10_4 fa_10_5 fb_10_5 fs_10_5 fa_10_6 fb_10_6 fs_10_6 fa_10_7 fb_10_7 fs_10_7 fa_10_8 fb_10_8 fs_10_8 fa_11 fb_11 fs_11 fa_12 fb_12 fs_12 fa_13 fb_13 fs_13 fa_14 fb_14 fs_14 fa_15 fb_15 fs_15 fa_17 fb_17 fs_17 fa_18 fb_18 fs_18 fa_20 fb_20 fs_20 fa_21 fb_21 fs_21 fa_22_0 fb_22_0 fs_22_0 fa_22_1 fb_22_1 fs_22_1 fa_22_2 fb_22_2 fs_22_2 fa_22_3 fb_22_3 fs_22_3 fa_22_4 fb_22_4 fs_22_4 fa_22_5 fb_22_5 fs_22_5 fa_22_6 fb_22_6 fs_22_6 fa_24 fb_24 fs_24 fa_25 fb_25 fs_25 fa_28 fb_28 fs_28 fa_29 fb_29 fs_29 fa_30 fb_30 fs_30 fa_31 fb_31 fs_31
    exact rfl
noncomputable def st_0 : Stmt := by
  refine (?f : (x : Stmt) → x = stm 0 → Stmt) ?x ?h
  case f => exact fun x _ => x
  case h =>
    conv => rhs; whnf
noncomputable def st_2 : Stmt := by
  refine (?f : (x : Stmt) → x = stm 2 → Stmt) ?x ?h
  case f => exact fun x _ => x
  case h =>
    conv => rhs; whnf
noncomputable def st_3 : Stmt := by
  refine (?f : (x : Stmt) → x = stm 3 → Stmt) ?x ?h
  case f => exact fun x _ => x
  case h =>
    conv => rhs; whnf
noncomputable def st_5 : Stmt := by
  refine (?f : (x : Stmt) → x = stm 5 → Stmt) ?x ?h
  case f => exact fun x _ => x
  case h =>
    conv => rhs; whnf
noncomputable def st_6 : Stmt := by
  refine (?f : (x : Stmt) → x = stm 6 → Stmt) ?x ?h
  case f => exact fun x _ => x
  case h =>
    conv => rhs; whnf
noncomputable def st_7 : Stmt := by
  refine (?f : (x : Stmt) → x = stm 7 → Stmt) ?x ?h
  case f => exact fun x _ => x
  case h =>
    conv => rhs; whnf
noncomputable def st_8 : Stmt := by
  refine (?f : (x : Stmt) → x = stm 8 → Stmt) ?x ?h
  case f => exact fun x _ => x
  case h =>
    conv => rhs; whnf
noncomputable def st_9 : Stmt := by
  refine (?f : (x : Stmt) → x = stm 9 → Stmt) ?x ?h
  case f => exact fun x _ => x
  case h =>
    conv => rhs; whnf
noncomputable def st_10 : Stmt := by
  refine (?f : (x : Stmt) → x = stm 10 → Stmt) ?x ?h
  case f => exact fun x _ => x
  case h =>
    conv => rhs; whnf
noncomputable def st_11 : Stmt := by
  refine (?f : (x : Stmt) → x = stm 11 → Stmt) ?x ?h
  case f => exact fun x _ => x
  case h =>
    conv => rhs; whnf
noncomputable def st_12 : Stmt := by
  refine (?f : (x : Stmt) → x = stm 12 → Stmt) ?x ?h
  case f => exact fun x _ => x
  case h =>
    conv => rhs; whnf
noncomputable def st_13 : Stmt := by
  refine (?f : (x : Stmt) → x = stm 13 → Stmt) ?x ?h
  case f => exact fun x _ => x
  case h =>
    conv => rhs; whnf
noncomputable def st_14 : Stmt := by
  refine (?f : (x : Stmt) → x = stm 14 → Stmt) ?x ?h
  case f => exact fun x _ => x
  case h =>
    conv => rhs; whnf
noncomputable def st_15 : Stmt := by
  refine (?f : (x : Stmt) → x = stm 15 → Stmt) ?x ?h
  case f => exact fun x _ => x
  case h =>
    conv => rhs; whnf
noncomputable def st_16 : Stmt := by
  refine (?f : (x : Stmt) → x = stm 16 → Stmt) ?x ?h
  case f => exact fun x _ => x
  case h =>
    conv => rhs; whnf
noncomputable def st_17 : Stmt := by
  refine (?f : (x : Stmt) → x = stm 17 → Stmt) ?x ?h
  case f => exact fun x _ => x
  case h =>
    conv => rhs; whnf
noncomputable def st_18 : Stmt := by
  refine (?f : (x : Stmt) → x = stm 18 → Stmt) ?x ?h
  case f => exact fun x _ => x
  case h =>
    conv => rhs; whnf
noncomputable def st_20 : Stmt := by
  refine (?f : (x : Stmt) → x = stm 20 → Stmt) ?x ?h
  case f => exact fun x _ => x
  case h =>
    conv => rhs; whnf
noncomputable def st_21 : Stmt := by
  refine (?f : (x : Stmt) → x = stm 21 → Stmt) ?x ?h
  case f => exact fun x _ => x
  case h =>
    conv => rhs; whnf
noncomputable def st_22 : Stmt := by
  refine (?f : (x : Stmt) → x = stm 22 → Stmt) ?x ?h
  case f => exact fun x _ => x
  case h =>
    conv => rhs; whnf
noncomputable def st_27 : Stmt := by
  refine (?f : (x : Stmt) → x = stm 27 → Stmt) ?x ?h
  case f => exact fun x _ => x
  case h =>
    conv => rhs; whnf
noncomputable def st_28 : Stmt := by
  refine (?f : (x : Stmt) → x = stm 28 → Stmt) ?x ?h
  case f => exact fun x _ => x
  case h =>
    conv => rhs; whnf
noncomputable def st_29 : Stmt := by
  refine (?f : (x : Stmt) → x = stm 29 → Stmt) ?x ?h
  case f => exact fun x _ => x
  case h =>
    conv => rhs; whnf
noncomputable def st_30 : Stmt := by
  refine (?f : (x : Stmt) → x = stm 30 → Stmt) ?x ?h
  case f => exact fun x _ => x
  case h =>
    conv => rhs; whnf
noncomputable def st_31 : Stmt := by
  refine (?f : (x : Stmt) → x = stm 31 → Stmt) ?x ?h
  case f => exact fun x _ => x
  case h =>
    conv => rhs; whnf
noncomputable def vw : Program := by
  refine (?f : (x : Program) → x = ({ PySem.Challenge.pw_jv0049_01 with main := { PySem.Challenge.pw_jv0049_01.main with body := st_0 :: st_2 :: st_3 :: st_5 :: st_6 :: st_7 :: st_8 :: st_9 :: st_10 :: st_11 :: st_12 :: st_13 :: st_14 :: st_15 :: st_16 :: st_17 :: st_18 :: st_20 :: st_21 :: st_22 :: st_27 :: st_28 :: st_29 :: st_30 :: st_31 :: [] } } : Program) → Program) ?x ?h
  case f => exact fun x _ => x
  case h =>
    delta st_0 st_2 st_3 st_5 st_6 st_7 st_8 st_9 st_10 st_11 st_12 st_13 st_14 st_15 st_16 st_17 st_18 st_20 st_21 st_22 st_27 st_28 st_29 st_30 st_31
    exact rfl
/-- the addresses of the written part -/
abbrev KA : List Addr := [2, 3, 15, 17, 18, 20, 21, 29, 31, 32, 34, 35, 36, 37, 38, 39, 40, 50, 51, 53, 54, 56, 57, 58, 60, 61, 63, 64, 65, 67, 68, 70, 71, 72, 74, 75, 77, 78, 79, 81, 82, 84, 85, 86, 88, 89, 91, 92, 93, 95, 96, 98, 99, 100, 101, 103, 104, 106, 107, 108, 110, 111, 113, 114, 115, 116, 117, 118, 119, 129, 131, 132, 134, 135, 136, 138, 139, 141, 142, 143, 145, 146, 148, 149, 150, 152, 153, 155, 156, 157, 159, 160, 162, 163, 164, 166, 167, 169, 170, 171, 173, 174, 176, 177, 178, 180, 181, 183, 184, 185, 186, 187, 188, 189, 190, 191, 192, 195, 203, 205, 206, 208, 209, 210, 212, 213, 215, 216, 217, 219, 220, 222, 223, 224, 227, 228, 229, 231, 232, 234, 235, 236, 239, 240, 241, 243, 244, 246, 247, 248, 250, 251, 253, 254, 255, 256, 258, 259, 261, 262, 263, 264, 265, 266, 267, 270, 272, 273, 275, 276, 277, 279, 280, 282, 283, 284, 286, 287, 289, 290, 291, 293, 294, 296, 297, 298, 300, 301, 303, 304, 305, 307, 308, 310, 311, 312, 314, 315, 317, 318, 319, 321, 322, 324, 325, 326, 328, 329, 331, 332, 340, 343, 344, 345, 347, 348, 350, 351, 352, 354, 355, 357, 358, 359, 361, 362, 364, 365, 366, 368, 369, 371, 372, 373, 374, 376, 377, 379, 380, 381, 382, 384, 385, 387, 388, 389, 390, 391, 392, 393, 396, 397, 399, 400, 402, 403, 404, 405, 407, 408, 410, 411, 412, 413, 415, 416, 418, 419, 420, 422, 423, 425, 426, 427, 429, 430, 432, 433, 434, 437, 438]
end Mine
section
open PySem PySem.W PyProof.Rows PySem.Spec PySem.Calls
namespace Mine
noncomputable abbrev LS : List Str := looseW vw [Str.ofString "Operator", Str.ofString "_operators", Str.ofString "quote_variable", Str.ofString "expand", Str.ofString "partial", Str.ofString "_law_names"]
noncomputable abbrev MProg : Program := PySem.Challenge.rw_jv0049_01.row.prog
abbrev Led := List (Addr × Obj)
section
variable {prog : Program} {w : World} {A A₀ : Around} {s : Shared} {K : Frag} {L : Addr} {h₀ base : Heap} {m mg mb : Str → Option Value} {own rest : List (Addr × Obj)} {p : Program} {loose : List Str} {mean : ExcName → Option Value}
/-- a def is entered with a part of the ledger alone; the rest comes back with the value -/
theorem code_defF {env : Env} {outer : List Env} {R : Result → Shared → Prop} {name qual : Str} {params : Arguments} {body : List Stmt} {scope : Scope} {dV kV doc pm cdv ct oc : Value} {an od : Option Addr} {osl : Array (Option Value)} {f : Addr} {args : Args} {binds : List (Str × Value)}
    (N : News h₀ L s.heap (own ++ rest)) (hne : ∀ q ∈ own, ∀ p ∈ rest, p.1 ≠ q.1)
    (B : Below A₀ base outer h₀) (F : Fr h₀ L s.heap m) (X₀ : K.In h₀) (T : Top p loose mean mg mb h₀) (hA : A.frames = some (env :: outer)) (hf : env.frame = some L) (hke : env.scope.kind = .function)
    (ho : K.lookup f = some ⟨oc, od, .func (fnOf name qual params body scope dV kV doc pm an cdv ct), osl⟩) (hcd : codeIn K cdv qual = true) (hroom : A.depth < recursionLimit)
    (hbind : BindsTo s (fnOf name qual params body scope dV kV doc pm an cdv ct) args binds) (hloc : ∀ y ∈ binds, scope.names.lookup y.1 = some .local)
    (h : ∀ g L' h₁, Fr h₀ L g m → Fr g L' h₁ (fun y => binds.reverse.lookup y) → News g L' h₁ own → Below A base (env :: outer) g → K.In g → Top p loose mean mg mb g →
      wpAny (model prog w) (A.deeper (envOf qual scope L' f cdv)) (execs body (envOf qual scope L' f cdv))
        (fun fl s' => LeaveK h₀ L m g (fun r s'' => News h₀ L s''.heap rest → R r s'') (match fl with | .ret v => v | _ => .none) s')
        (fun e s' => wpAny (model prog w) (A.deeper (envOf qual scope L' f cdv)) (leaving (envOf qual scope L' f cdv) e) (fun _ s'' => R (.error e) s'') (fun e' s'' => R (.error e') s'') s')
        { s with heap := h₁, toks := s.toks + binds.length })
    (hco : scope.isCoroutine = false) (hgen : scope.isGenerator = false) (hk : scope.kind = .function)
    (hcell : ∀ x ∈ scope.names, x.2 ≠ .cell) : codeAny (model prog w) A (.call (.ref f) args) R s := by
  have No : News h₀ L s.heap own := fun p hp => N p (List.mem_append_left _ hp)
  have Nr : News h₀ L s.heap rest := fun p hp => N p (List.mem_append_right _ hp)
  obtain ⟨FG, BG, st, lv⟩ := groundX (R := fun r s'' => News h₀ L s''.heap rest → R r s'') B F No hA hf hke
  refine codeAny_call_def (fd := fnX name qual params body scope [] dV kV doc pm an cdv ct) (body := body) (binds := binds) hroom ((X₀.keeps F.keep) _ _ ho) rfl (T.nolimit.keeps F.keep) (codeRec_of (X₀.keeps F.keep) hcd) rfl hbind hcell hloc (fun h₁ hns hk₁ => ?_) hco hgen hk
  refine wpAny_mono (h _ s.heap.objs.size h₁ FG ⟨hns, fun b o e => hk₁ b o (of_hideAll _ e), Nat.le_of_eq (hideAll_size _ _)⟩
    (fun p hp => ⟨hk₁ _ _ (No p hp).1, Nat.ne_of_lt (Heap.lt_size (No p hp).1), hideAll_none _ (List.mem_map_of_mem hp)⟩) BG (X₀.keeps st) (T.keeps st)) (fun fl s' hl => ?_) fun _ _ y => y
  refine lv _ _ hl ?_
  obtain ⟨L', m', news', F', _, _⟩ := hl
  intro p hp
  refine ⟨F'.keep _ _ (hideAll_get _ (Nr p hp).1 ?_), (Nr p hp).2⟩
  intro hq
  obtain ⟨q, hq, e⟩ := List.mem_map.mp hq
  exact hne q hq p hp e.symm
/-- the same for a def some of whose names are cells -/
theorem code_defCF {env : Env} {outer : List Env} {R : Result → Shared → Prop} {name qual : Str} {params : Arguments} {body : List Stmt} {scope : Scope} {dV kV doc pm cdv ct oc : Value} {an od : Option Addr} {osl : Array (Option Value)} {f : Addr} {args : Args} {binds : List (Str × Value)}
    (N : News h₀ L s.heap (own ++ rest)) (hne : ∀ q ∈ own, ∀ p ∈ rest, p.1 ≠ q.1)
    (B : Below A₀ base outer h₀) (F : Fr h₀ L s.heap m) (X₀ : K.In h₀) (T : Top p loose mean mg mb h₀) (hA : A.frames = some (env :: outer)) (hf : env.frame = some L) (hke : env.scope.kind = .function)
    (ho : K.lookup f = some ⟨oc, od, .func (fnOf name qual params body scope dV kV doc pm an cdv ct), osl⟩) (hcd : codeIn K cdv qual = true) (hroom : A.depth < recursionLimit)
    (hbind : BindsTo s (fnOf name qual params body scope dV kV doc pm an cdv ct) args binds) (hkind : (binds.all fun y => scope.names.lookup y.1 == some .local || scope.names.lookup y.1 == some .cell) = true)
    (hnd : ((cellsFrom 0 scope.names []).map (·.1)).Nodup)
    (h : ∀ g L' h₁ tk cells, Fr h₀ L g m → Fr g L' h₁ (bindL (envOfC qual scope L' f cdv).kindOf binds fun _ => none) → News g L' h₁ (cells ++ own) →
      CellsAre (bindC (envOfC qual scope L' f cdv).kindOf binds fun _ => none) (cellsFrom (L' + 1) scope.names []) cells → Below A base (env :: outer) g → K.In g → Top p loose mean mg mb g → (∀ p ∈ own, p.1 < L') →
      wpAny (model prog w) (A.deeper (envOfC qual scope L' f cdv)) (execs body (envOfC qual scope L' f cdv))
        (fun fl s' => LeaveK h₀ L m g (fun r s'' => News h₀ L s''.heap rest → R r s'') (match fl with | .ret v => v | _ => .none) s')
        (fun e s' => wpAny (model prog w) (A.deeper (envOfC qual scope L' f cdv)) (leaving (envOfC qual scope L' f cdv) e) (fun _ s'' => R (.error e) s'') (fun e' s'' => R (.error e') s'') s')
        { s with heap := h₁, toks := tk })
    (hco : scope.isCoroutine = false) (hgen : scope.isGenerator = false) (hk : scope.kind = .function) : codeAny (model prog w) A (.call (.ref f) args) R s := by
  have No : News h₀ L s.heap own := fun p hp => N p (List.mem_append_left _ hp)
  have Nr : News h₀ L s.heap rest := fun p hp => N p (List.mem_append_right _ hp)
  obtain ⟨FG, BG, st, lv⟩ := groundX (R := fun r s'' => News h₀ L s''.heap rest → R r s'') B F No hA hf hke
  refine codeAny_call_function hroom ((X₀.keeps F.keep) _ _ ho) rfl hco hgen rfl (codeRec_of (X₀.keeps F.keep) hcd) (hbind _ _ _ _ ?_)
  refine wpAny_newFunctionEnv_cells hk (kindsX hkind _) fun env' he s' x => ?_
  subst he
  refine ⟨(T.nolimit.keeps F.keep).keeps x.toInCall.keep, codeAny_func ?_⟩
  obtain ⟨h₁, tk, rfl, _⟩ := x.done
  have hk₁ := x.toInCall.keep
  obtain ⟨cells, NC, Y⟩ := Cl.news (h₀ := s.heap) (Nat.le_refl _) fun n c hm => ⟨x.cell n c (lookup_of_mem_nodup (cellsFrom_names scope.names 0 (s.heap.objs.size + 1) [] [] rfl ▸ hnd) hm), x.above n c hm⟩
  refine wpAny_mono (h _ s.heap.objs.size h₁ tk cells FG ⟨x.toInCall.ns, fun b o e => hk₁ b o (of_hideAll _ e), Nat.le_of_eq (hideAll_size _ _)⟩ (fun p hp => ?_) Y BG (X₀.keeps st) (T.keeps st) (fun p hp => Heap.lt_size (No p hp).1)) (fun fl s' hl => ?_) fun _ _ y => y
  · rcases List.mem_append.mp hp with hp | hp
    · refine ⟨(NC p hp).1, (NC p hp).2.1, ?_⟩
      cases q : (hideAll s.heap (own.map (·.1))).get? p.1 with
      | none => rfl
      | some o => have := of_hideAll _ q; rw [(NC p hp).2.2] at this; cases this
    · exact ⟨hk₁ _ _ (No p hp).1, Nat.ne_of_lt (Heap.lt_size (No p hp).1), hideAll_none _ (List.mem_map_of_mem hp)⟩
  · refine lv _ _ hl ?_
    obtain ⟨L', m', news', F', _, _⟩ := hl
    intro p hp
    refine ⟨F'.keep _ _ (hideAll_get _ (Nr p hp).1 ?_), (Nr p hp).2⟩
    intro hq
    obtain ⟨q, hq, e⟩ := List.mem_map.mp hq
    exact hne q hq p hp e.symm
end
/-- what a call of f does, from any frame that owns «own»: it hands back a value, and the ledger is news' and what else there was -/
def Ctr (n : Nat) (w : World) (f : Addr) (vs : List Value) (own : Led) (Post : Led → Value → Prop) : Prop :=
  ∀ (mean : ExcName → Option Value) (mg mb : Str → Option Value) (dp un : Nat) (gd : Option (List Code)) (cn : Str) (cs : Scope) (a : Addr) (ccd : Value) (cl : List (Str × Addr)) (outer : List Env) (A₀ : Around) (base h₀ : Heap) (L : Addr) (m : Str → Option Value) (rest : Led) (s : Shared) (Q E : Value → Shared → Prop),
    Below A₀ base outer h₀ → Fr h₀ L s.heap m → (Mine.KF w.params).In h₀ → News h₀ L s.heap (own ++ rest) → (∀ q ∈ own, ∀ p ∈ rest, p.1 ≠ q.1) → Top Mine.vw LS mean mg mb h₀ → cs.kind = .function → dp + n < recursionLimit → un + 10 * n < cLine →
    (∀ r news' h' tk', Fr h₀ L h' m → News h₀ L h' (news' ++ rest) → Post news' r → Q r { s with heap := h', toks := tk' }) →
    wpAny (model MProg w) (ktrTop dp un gd cn cs L a ccd cl outer) (call (.ref f) vs) Q E s
theorem news_join {h₀ h : Heap} {L : Addr} {led own rest : Led} (N : News h₀ L h led) (R : News h₀ L h rest) (hs : ∀ p ∈ own, p ∈ led) : News h₀ L h (own ++ rest) :=
  fun p hp => (List.mem_append.mp hp).elim (fun h => N p (hs p h)) (fun h => R p h)
abbrev RPost (own : Led) (P : Led → Value → Prop) : Led → Value → Prop := fun news' r => ∃ tl, news' = tl ++ own ∧ P tl r
section
variable {n : Nat} {w : World} {f : Addr} {vs : List Value} {own led : Led} {Post : Led → Value → Prop}
   {mean : ExcName → Option Value} {mg mb : Str → Option Value} {dp un : Nat} {gd : Option (List Code)} {cn : Str} {cs : Scope} {a : Addr} {ccd : Value} {cl : List (Str × Addr)} {outer : List Env} {A₀ : Around} {base h₀ : Heap} {L : Addr} {m : Str → Option Value} {s : Shared} {Q E : Value → Shared → Prop}
/-- the use of a contract that changes nothing of what it is handed -/
theorem Ctr.useR (c : Ctr n w f vs own (RPost own Post))
   (B : Below A₀ base outer h₀) (F : Fr h₀ L s.heap m) (X : (Mine.KF w.params).In h₀) (N : News h₀ L s.heap led) (T : Top Mine.vw LS mean mg mb h₀) (hk : cs.kind = .function)
   (hsub : ∀ p ∈ own, p ∈ led)
   (hdp : dp + n < recursionLimit) (hun : un + 10 * n < cLine)
   (hret : ∀ r tl h' tk', Fr h₀ L h' m → News h₀ L h' (tl ++ led) → Post tl r → Q r { s with heap := h', toks := tk' }) :
   wpAny (model MProg w) (ktrTop dp un gd cn cs L a ccd cl outer) (call (.ref f) vs) Q E s := by
  refine c _ _ _ _ _ _ _ _ _ _ _ _ _ _ _ _ _ (led.filter fun p => !(own.any fun q => p.1 == q.1)) _ _ _ B F X ?_ ?_ T hk hdp hun ?_
  · intro p hp
    rcases List.mem_append.mp hp with hp | hp
    · exact N p (hsub p hp)
    · exact N p ((List.mem_filter.mp hp).1)
  · intro q hq p hp e
    have := (List.mem_filter.mp hp).2
    rw [Bool.not_eq_true', List.any_eq_false] at this
    exact this q hq (by simp [e])
  · rintro r news' h' tk' F' N' ⟨tl, rfl, hP⟩
    refine hret r tl h' tk' F' ?_ hP
    intro p hp
    rcases List.mem_append.mp hp with hp | hp
    · exact N' p (List.mem_append_left _ (List.mem_append_left _ hp))
    · by_cases hq : (own.any fun q => p.1 == q.1) = true
      · obtain ⟨q, hq, e⟩ := List.any_eq_true.mp hq
        have e : p.1 = q.1 := by simpa using e
        have h1 := (N p hp).1
        have h2 := (N q (hsub q hq)).1
        rw [e, h2] at h1
        have : p = q := Prod.ext e (Option.some.inj h1).symm
        rw [this]
        exact N' q (List.mem_append_left _ (List.mem_append_right _ hq))
      · exact N' p (List.mem_append_right _ (List.mem_filter.mpr ⟨hp, by simp only [Bool.not_eq_true] at hq; rw [hq]; rfl⟩))
/-- what is handed is changed: the caller says what the rest is -/
theorem Ctr.useM {rest : Led} (c : Ctr n w f vs own Post)
   (B : Below A₀ base outer h₀) (F : Fr h₀ L s.heap m) (X : (Mine.KF w.params).In h₀) (N : News h₀ L s.heap led) (T : Top Mine.vw LS mean mg mb h₀) (hk : cs.kind = .function)
   (hsub : ∀ p ∈ own ++ rest, p ∈ led) (hne : ∀ q ∈ own, ∀ p ∈ rest, p.1 ≠ q.1)
   (hdp : dp + n < recursionLimit) (hun : un + 10 * n < cLine)
   (hret : ∀ r news' h' tk', Fr h₀ L h' m → News h₀ L h' (news' ++ rest) → Post news' r → Q r { s with heap := h', toks := tk' }) :
   wpAny (model MProg w) (ktrTop dp un gd cn cs L a ccd cl outer) (call (.ref f) vs) Q E s :=
  c _ _ _ _ _ _ _ _ _ _ _ _ _ _ _ _ _ rest _ _ _ B F X (fun p hp => N p (hsub p hp)) hne T hk hdp hun hret
end
end Mine
end

section
open PySem PySem.W PyProof.Rows PySem.Spec PySem.Calls
namespace Mine
section
variable {prog : Program} {w : World} {A : Around} {E : Value → Shared → Prop} {s : Shared} {t u : Tok} {x : PySem.Str} {bs : Array UInt8}
theorem enc_tree : Builtin.«str.encode» ⟨[.str x t, .str (PySem.Str.ofString "utf-8") u], []⟩ = (Builtin._codecs.encodeRoad "str.encode" (.str x t) x (PySem.Str.ofString "utf-8") none >>= fun v => ret v) := by kernel_rfl
theorem enc_meets (hd : ∀ id v, Builtin._codecs.encodeNarrow id Builtin._codecs.utf8Codec none v x = pure bs) :
    Meets (Builtin.«str.encode» ⟨[.str x t, .str (PySem.Str.ofString "utf-8") u], []⟩) (fun _ R s => bs.size ≤ sizeLine ∧ ∀ t' k, R (.ok (.ret (.bytes bs t'))) { s with toks := k }) := by
  refine .of_wp fun prog w A R s hS => ?_
  obtain ⟨hsz, h⟩ := hS
  rw [enc_tree, PySem.encodeRoad_utf8, hd]
  refine wpAny_bind (wpAny_bind (wpAny_pure ?_))
  exact wpAny_mkBytes (wpAny_pure ⟨_, rfl, h _ _⟩) hsz
theorem enc_call {Q : Value → Shared → Prop} (hd : ∀ id v, Builtin._codecs.encodeNarrow id Builtin._codecs.utf8Codec none v x = pure bs) (hsz : bs.size ≤ 16777216) (h : ∀ t' k, Q (.bytes bs t') { s with toks := k }) :
    wpAny (model prog w) A (call (.builtin "str.encode") [.str x t, .str (PySem.Str.ofString "utf-8") u]) Q E s :=
  call_meets F.slot_str_encode (typeIs_str _ _ _) F.entry_str_encode (F.args_str_encode_2 _ _) (enc_meets hd) ⟨by rw [sizeLine_eq]; exact hsz, h⟩
theorem enc_method {M : Model} {pl : Sem Bool} {Q : Value × List Value → Shared → Prop} (h : Q (.builtin "str.encode", [.str x t]) s) : wpAny M A (getMethod (.str x t) "encode" pl) Q E s :=
  getMethod_builtin (typeIs_str _ _ _) F.plainAttrs_str F.slot_str_encode F.type_str_encode (fun _ e => nomatch e) h
theorem truthy_strT {Q : Bool → Shared → Prop} (h0 : 0 < x.length ∧ x.length ≤ 1000) (h : Q true { s with toks := s.toks + 1 + 1 }) : wpAny (model prog w) A (truthy (.str x t)) Q E s :=
  PySem.P.truthy_str (by omega) (by rw [show ((x.length : Int) != 0) = true from by simp only [bne_iff_ne, ne_eq]; omega]; exact h)
theorem join_one {D : Addr} {items : Array Value} {y : PySem.Str} {Q : Value → Shared → Prop} (hl : s.heap.IsList D items) (hi : StrsAre items.toList [y]) (hy : y.length ≤ 1000) (hsep : x.length ≤ 16) (h : ∀ t' k, Q (.str y t') { s with toks := k }) :
    wpAny (model prog w) A (call (.builtin "str.join") [.str x t, .ref D]) Q E s :=
  join_listW hl hi hsep (by simp only [List.map_cons, List.map_nil, List.sum_cons, List.sum_nil, List.length_cons, List.length_nil]; omega) h
theorem add_emp {y : PySem.Str} {Q : Value → Shared → Prop} (hy : y.length ≤ 1000) (h : ∀ t' tk, Q (.str y t') { s with toks := tk }) : wpAny (model prog w) A (binaryOp .Add (.str (PySem.Str.ofString "") t) (.str y u)) Q E s :=
  add_str (fun t' tk => by have e : PySem.Str.ofString "" ++ y = y := PySem.Str.empty_append y; rw [e]; exact h t' tk) (by rw [sizeLine_eq]; show 0 + y.length ≤ _; omega)
theorem in_strD {y : PySem.Str} {b : Bool} {Q : Value → Shared → Prop} (hb : (!(Builtin.Str.occurrences x y 0 x.length 1).isEmpty) = b) (h : Q (.bool b) s) : wpAny (model prog w) A (compareOp .In (.str y u) (.str x t)) Q E s := in_str (by rw [hb]; exact h)
theorem enc_zz : ∀ id v, Builtin._codecs.encodeNarrow id Builtin._codecs.utf8Codec none v (PySem.Str.ofString "z-z2") = pure #[122, 45, 122, 50] := by intro id v; kernel_rfl
end
end Mine
end

section
open PySem PySem.W PyProof.Rows PySem.Spec PySem.Calls PyProof.V
namespace Mine
section
variable {prog : Program} {w : World} {K : Type} [DecidableEq K] {knd : KeyKind prog w K} {A : Around} {E : Value → Shared → Prop} {s : Shared} {h₀ : Heap} {L d d2 : Addr} {m : PySem.Str → Option Value} {news : List (Addr × Obj)} {g : Obj → List (Addr × Obj)} {o o2 : Obj} {kvs more : List (K × Value)}
theorem dx_method {name : PySem.Str} {id : String} {pl : Sem Bool} {Q : Value × List Value → Shared → Prop} (slot : Slot "dict" name id) (ty : typeOf (.builtin id) = pure (.type "method_descriptor")) (N : News h₀ L s.heap news) (hp : (d, o) ∈ news) (hd : o.IsDictOf knd kvs) (h : Q (.builtin id, [.ref d]) s) :
    wpAny (model prog w) A (getMethod (.ref d) name pl) Q E s :=
  have hD := kda_dict N hp hd
  getMethod_builtin hD.typeIs PySem.F.plainAttrs_dict slot ty hD.mapOf.noDict h
theorem dx_truthy {Q : Bool → Shared → Prop} (N : News h₀ L s.heap news) (hp : (d, o) ∈ news) (hd : o.IsDictOf knd kvs) (lo : (d == sysModules) = false) (hfit : kvs.length ≤ 1000) (h : Q (!kvs.isEmpty) { s with toks := s.toks + 1 + 1 }) :
    wpAny (model prog w) A (truthy (.ref d)) Q E s := wpAny_truthy_dict lo (kda_dict N hp hd) (by omega) h
theorem dx_copy {Q : Value → Shared → Prop} (F : Fr h₀ L s.heap m) (N : News h₀ L s.heap news) (hp : (d, o) ∈ news) (hd : o.IsDictOf knd kvs) (lo : (d == sysModules) = false) (hfit : kvs.length ≤ 1000) (hbig : h₀.NoLimit)
    (h : ∀ (d' : Addr) h' o', Fr h₀ L h' m → News h₀ L h' ((d', o') :: news) → (∀ p ∈ news, p.1 < d') → (d' == sysModules) = false → o'.IsDictOf knd kvs → Q (.ref d') { s with heap := h' }) :
    wpAny (model prog w) A (call (.builtin "dict.copy") [.ref d]) Q E s := by
  have hD := kda_dict N hp hd
  refine call_meetsIn PySem.F.slot_dict_copy hD.typeIs PySem.F.entry_dict_copy (PySem.F.args_dict_copy_1 _) (meets_dict_copy knd d lo) ⟨kvs, hD, by rw [sizeLine_eq]; omega, fun h' h1 h2 hk => ?_⟩
  obtain ⟨o', ho', hd'⟩ := Heap.dictOf_iff.mp h1
  refine h _ h' o' (F.keeps hk) ?_ (fun p hp => Heap.lt_size (N p hp).1) (F.notModules (modules_low hbig)) hd'
  intro p hp
  rcases List.mem_cons.mp hp with rfl | hp
  · exact ⟨ho', Nat.ne_of_gt F.ns.lt, ktu_new F (Nat.le_refl _)⟩
  · exact ⟨hk _ _ (N p hp).1, (N p hp).2⟩
theorem dx_update {Q : Value → Shared → Prop} (F : Fr h₀ L s.heap m) (N : News h₀ L s.heap news) (U : UpdF d o news g) (hd : o.IsDictOf knd kvs) (hp2 : (d2, o2) ∈ news) (hd2 : o2.IsDictOf knd more) (hne : d ≠ d2) (lo2 : (d2 == sysModules) = false) (hfit : kvs.length + more.length ≤ 1000)
    (h : ∀ h' o', Fr h₀ L h' m → News h₀ L h' (g o') → o'.IsDictOf knd (merged kvs more) → Q .none { s with heap := h' }) :
    wpAny (model prog w) A (call (.builtin "dict.update") [.ref d, .ref d2]) Q E s := by
  have hO := kda_dict N hp2 hd2
  obtain ⟨pre, post, rfl, hg, a, b⟩ := U.split
  have hm := N (d, o) (List.mem_append_right _ (.head _))
  have hD : s.heap.DictOf knd d kvs := Heap.dictOf_iff.mpr ⟨o, hm.1, hd⟩
  refine call_meetsIn PySem.F.slot_dict_update hD.typeIs PySem.F.entry_dict_update (PySem.F.args_dict_update_2 _ _) (meets_dict_update knd d d2 hne lo2) ⟨kvs, more, hD, hO, by rw [sizeLine_eq]; omega, fun h' hd' ho' hs => ?_⟩
  obtain ⟨o', ho', hdd⟩ := Heap.dictOf_iff.mp hd'
  exact h h' o' (F.change hs hm.2.1 hm.2.2) (hg o' ▸ N.setIn a b hs ho') hdd
end
section
variable {K : Type} [DecidableEq K]
theorem valueAt_cons (p : K × Value) (kvs : List (K × Value)) (n : K) : valueAt (p :: kvs) n = if p.1 = n then some p.2 else valueAt kvs n := by
  unfold valueAt
  rw [List.find?_cons]
  by_cases h : p.1 = n
  · rw [if_pos h]; simp [h]
  · rw [if_neg h]; simp [h]
theorem valueAt_append (a b : List (K × Value)) (n : K) : valueAt (a ++ b) n = (valueAt a n).or (valueAt b n) := by
  induction a with
  | nil => show valueAt b n = (none : Option Value).or (valueAt b n); rfl
  | cons p r ih =>
    rw [List.cons_append, valueAt_cons, valueAt_cons, ih]
    by_cases h : p.1 = n
    · rw [if_pos h, if_pos h]; rfl
    · rw [if_neg h, if_neg h]
theorem valueAt_map_store (kvs : List (K × Value)) (k : K) (v : Value) (n : K) : valueAt (kvs.map fun kv => if kv.1 = k then (kv.1, v) else kv) n = if k = n then (valueAt kvs n).map fun _ => v else valueAt kvs n := by
  induction kvs with
  | nil => by_cases h : k = n <;> simp [valueAt, h]
  | cons p r ih =>
    rw [List.map_cons, valueAt_cons, valueAt_cons, ih]
    by_cases h1 : p.1 = k
    · rw [if_pos h1]
      by_cases h2 : k = n
      · rw [if_pos h2, if_pos (h1.trans h2), if_pos (h1.trans h2), if_pos h2]; rfl
      · rw [if_neg h2, if_neg (fun e => h2 (h1 ▸ e)), if_neg (fun e => h2 (h1 ▸ e)), if_neg h2]
    · rw [if_neg h1]
      by_cases h2 : p.1 = n
      · have h3 : ¬ k = n := fun e => h1 (h2.trans e.symm)
        rw [if_pos h2, if_neg h3, if_pos h2]
      · rw [if_neg h2]
        by_cases h3 : k = n
        · rw [if_pos h3, if_pos h3, if_neg h2]
        · rw [if_neg h3, if_neg h3, if_neg h2]
theorem valueAt_stored (kvs : List (K × Value)) (k : K) (v : Value) (n : K) : valueAt (stored kvs k v) n = if k = n then some v else valueAt kvs n := by
  unfold stored
  by_cases hc : kvs.any (fun kv => kv.1 = k) = true
  · rw [if_pos hc, valueAt_map_store]
    by_cases h : k = n
    · subst h
      rw [if_pos rfl, if_pos rfl]
      have := valueAt_isSome_eq_any kvs k
      rw [hc] at this
      obtain ⟨x, hx⟩ := Option.isSome_iff_exists.mp this
      rw [hx]; rfl
    · rw [if_neg h, if_neg h]
  · rw [if_neg hc, valueAt_append, valueAt_cons]
    have h0 : valueAt kvs k = none := by
      have := valueAt_isSome_eq_any kvs k
      rw [(Bool.not_eq_true _).mp hc] at this
      cases e : valueAt kvs k with
      | none => rfl
      | some _ => rw [e] at this; cases this
    by_cases h : k = n
    · subst h
      rw [if_pos rfl, if_pos rfl, h0]; rfl
    · rw [if_neg h, if_neg h]
      cases valueAt kvs n <;> rfl
theorem valueAt_merged : ∀ (more kvs : List (K × Value)) (n : K), (more.map (·.1)).Nodup → valueAt (merged kvs more) n = (valueAt more n).or (valueAt kvs n)
  | [], kvs, n, _ => rfl
  | p :: r, kvs, n, h => by
    show valueAt (merged (stored kvs p.1 p.2) r) n = _
    have h' := List.nodup_cons.mp h
    rw [valueAt_merged r _ n h'.2, valueAt_stored, valueAt_cons]
    by_cases e : p.1 = n
    · rw [if_pos e, if_pos e]
      have : valueAt r n = none := valueAt_none_of_not_mem (by rw [← e]; exact h'.1)
      rw [this]; rfl
    · rw [if_neg e, if_neg e]
end
end Mine
end

section
open PySem PySem.W PyProof.Rows PySem.Spec PySem.Calls PyProof.V
namespace Mine
/-- the walk stops here -/
def Hold (P : Prop) : Prop := P
theorem Hold.out {P : Prop} (h : Hold P) : P := h
section
variable {prog : Program} {w : World} {A : Around} {E : Value → Shared → Prop} {s : Shared} {env : Env} {h₀ : Heap} {x : PySem.Str} {body : List Stmt} {Q : Flow → Shared → Prop}
theorem iter_listH {ax : Addr} {lo : Obj} {arr : Array Value} {n : Nat} {m₀ : PySem.Str → Option Value} {news : List (Addr × Obj)}
    (hh : A.handled = none) (F : Fr h₀ env.locals s.heap m₀) (N : News h₀ env.locals s.heap news) (hm : (ax, lo) ∈ news) (hc : lo.cls = .type "list") (hd : lo.data = .seq arr n)
    (rest₀ : Hold (∀ I : Addr, (∀ p ∈ news, p.1 < I) → ListRest prog w A E h₀ env x body Q s I (ax, lo) arr.toList m₀ news)) :
    wpAny (model prog w) A (pyIter (.ref ax)) (fun it s₂ => LoopAtV prog w A h₀ env x body Q E it s₂) E s := iter_listUnr hh F N hm hc (by rw [hd]) rest₀
theorem list_ind {I : Addr} {lp : Addr × Obj} (J : List Value → (PySem.Str → Option Value) → Led → Prop)
   (e0 : ∀ m news, J [] m news → ∀ h tk, Fr h₀ env.locals h m → News h₀ env.locals h news → Q .next { s with heap := h, toks := tk })
   (e1 : ∀ v r m news, J (v :: r) m news → ∀ (it : Obj) h tk, it.cls = .type "list_iterator" → Fr h₀ env.locals h (fun y => if y = x then some v else m y) → News h₀ env.locals h ((I, it) :: news) →
      wpAny (model prog w) A (execs body env) (UnrPost h₀ env.locals { s with heap := h, toks := tk } I it (fun m' n' => lp ∈ n' ∧ J r m' n') Q) E { s with heap := h, toks := tk }) :
   ∀ l m news, J l m news → ListRest prog w A E h₀ env x body Q s I lp l m news
  | [], m, news, j => fun h tk F N => e0 m news j h tk F N
  | v :: r, m, news, j => fun it h tk hc F N => by
    refine wpAny_mono (e1 v r m news j it h tk hc F N) (fun f s₂ p => ?_) fun _ _ e => e
    cases f with
    | ret v => exact p
    | brk => exact p
    | next => obtain ⟨h', tk', m', n', a, b, c', d, e1', e2'⟩ := p; exact ⟨h', tk', m', n', a, b, c', d, e1', list_ind J e0 e1 r m' n' e2'⟩
    | cont => obtain ⟨h', tk', m', n', a, b, c', d, e1', e2'⟩ := p; exact ⟨h', tk', m', n', a, b, c', d, e1', list_ind J e0 e1 r m' n' e2'⟩
end
end Mine
end

section
open PySem PySem.W PyProof.Rows PySem.Spec PySem.Calls PyProof.V
namespace Mine
section
variable {prog : Program} {w : World} {A : Around} {E : Value → Shared → Prop} {s : Shared} {env : Env} {h₀ : Heap} {body : List Stmt} {Q : Flow → Shared → Prop} {target : Expr}
/-- a list whose items are told to a target of several names: the walk stops here -/
theorem iter_listTH {ax : Addr} {lo : Obj} {vs : List Value} {n : Nat} {m₀ : PySem.Str → Option Value} {news : List (Addr × Obj)}
    (hh : A.handled = none) (F : Fr h₀ env.locals s.heap m₀) (N : News h₀ env.locals s.heap news) (hm : (ax, lo) ∈ news) (hc : lo.cls = .type "list") (hd : lo.data = .seq vs.toArray n)
    (rest₀ : Hold (∀ I : Addr, News h₀ env.locals s.heap news → (∀ p ∈ news, p.1 < I) → ItemsRest prog w A E h₀ env target body Q s [(I, "list_iterator")] [(ax, lo)] (vs.map .val) m₀ news)) :
    wpAny (model prog w) A (pyIter (.ref ax)) (fun it s₂ => TurnsAt prog w A h₀ env target body Q E it s₂) E s := iter_listTurns hh F N hm hc hd fun I => rest₀ I N
theorem turns_ind {I : Addr} {lp : Addr × Obj} (J : List Value → (PySem.Str → Option Value) → Led → Prop)
   (e0 : ∀ m news, J [] m news → ∀ h tk, Fr h₀ env.locals h m → News h₀ env.locals h news → Q .next { s with heap := h, toks := tk })
   (e1 : ∀ v r m news, J (v :: r) m news → ∀ (it : Obj) h tk, it.cls = .type "list_iterator" → Fr h₀ env.locals h m → News h₀ env.locals h ((I, it) :: news) →
      wpAny (model prog w) A (assign target env v) (fun _ s₂ => wpAny (model prog w) A (execs body env) (UnrPostW h₀ env.locals { s with heap := h, toks := tk } [(I, it)] (fun m' n' => lp ∈ n' ∧ J r m' n') Q) E s₂) E { s with heap := h, toks := tk }) :
   ∀ l m news, J l m news → ItemsRest prog w A E h₀ env target body Q s [(I, "list_iterator")] [lp] (l.map .val) m news
  | [], m, news, j => fun h tk F N => e0 m news j h tk F N
  | a :: r, m, news, j => by
    intro v h tk ha F o1 c1 N
    have ha' : v = a := ha
    subst ha'
    refine wpAny_mono (e1 v r m news j o1 h tk c1 F N) (fun _ s₂ h₂ => wpAny_mono h₂ (fun f s₃ p => ?_) fun _ _ e => e) fun _ _ e => e
    cases f with
    | ret v => exact p
    | brk => exact p
    | next => obtain ⟨h', tk', m', n', a, b, c', d, e, f⟩ := p; exact ⟨h', tk', m', n', a, b, c', d, ⟨e, trivial⟩, turns_ind J e0 e1 r m' n' f⟩
    | cont => obtain ⟨h', tk', m', n', a, b, c', d, e, f⟩ := p; exact ⟨h', tk', m', n', a, b, c', d, ⟨e, trivial⟩, turns_ind J e0 e1 r m' n' f⟩
end
end Mine
end

section
open PySem PySem.W PyProof.Rows PySem.Spec PySem.Calls PyProof.V PyProof.Rows.LCg
namespace Mine
/-- a turn of a comprehension whose target has three names: J says what holds after i turns -/
def TurnT (prog : Program) (w : World) (A : Around) (h₀ : Heap) (L : Addr) (m : PySem.Str → Option Value) (env : Env) (elt : Expr) (x x₂ x₃ : PySem.Str) (scope : Scope) (cl : List (PySem.Str × Addr)) (s : Shared) (S : Led → Prop) (P : Nat → Value → Prop) (J : Nat → List Value → Led → Prop) : Prop :=
  ∀ i v ys news, P i v → J i ys news → ∃ (t : Addr) (ot : Obj) (v₁ v₂ v₃ : Value) (nt : Nat), v = .ref t ∧ (t, ot) ∈ news ∧ ot.cls = .type "tuple" ∧ ot.data = .seq #[v₁, v₂, v₃] nt ∧
    ∀ I oI C oC D m₂ h tk (E' : Value → Shared → Prop), (∃ fs, oI.data = .fields fs) → NsObj oC m₂ → m₂ x = some v₁ → m₂ x₂ = some v₂ → m₂ x₃ = some v₃ → Fr h₀ L h m → News h₀ L h ((I, oI) :: (C, oC) :: (D, lst ys) :: news) → Off3 I C D news → ((@Ne Nat I C) ∧ (@Ne Nat I D) ∧ (@Ne Nat C D)) →
      wpAny (model prog w) A (eval elt (compEnvC scope cl C env)) (CompEnd h₀ L m { s with heap := h, toks := tk } I oI C oC D (lst ys) S (fun y news' => J (i + 1) (ys ++ [y]) news')) E' { s with heap := h, toks := tk }
section
variable {prog : Program} {w : World} {A : Around} {E : Value → Shared → Prop} {s : Shared} {h₀ : Heap} {L : Addr} {m : PySem.Str → Option Value} {env : Env}
theorem block_T {elt iter : Expr} {x x₂ x₃ : PySem.Str} {px px₂ px₃ tp : Pos} {tk} {scope : Scope} {cl : List (PySem.Str × Addr)} {pos : Pos} {s₂ : Shared} {I : Addr} {fp : List Addr} {n : Nat} {P : Nat → Value → Prop} {St : Nat → Heap → Prop} {S : Led → Prop} {news : Led}
    {J : Nat → List Value → Led → Prop} {RR : Value → Addr → Result → Shared → Prop}
    (W : Walks prog w A I fp [I] n P St) (hsz : n ≤ sizeLine)
    (hSt : ∀ i h h' o nw, St i h → h.get? I = some o → h'.get? I = some o → (∀ b o, h₀.get? b = some o → h'.get? b = some o) → News h₀ L h' nw → S nw → St i h')
    (hcell : ∀ y ∈ scope.names, y.2 ≠ .cell) (hkind : scope.kind = .function) (hx : scope.names.lookup x = some .local) (hx₂ : scope.names.lookup x₂ = some .local) (hx₃ : scope.names.lookup x₃ = some .local) (hxx : x ≠ x₂ ∧ x ≠ x₃ ∧ x₂ ≠ x₃) (hh : A.handled = none) (hLI : ∀ i h, St i h → ∃ l j, h.IsListIter I l j) (hst : St 0 s₂.heap) (hfp : ∀ b ∈ fp, b < s₂.heap.objs.size)
    (F : Fr h₀ L s₂.heap m) (N : News h₀ L s₂.heap news) (hIL : L ≠ I) (hI₀ : h₀.get? I = none) (off : ∀ p ∈ news, p.1 ≠ I) (hS : S news)
    (R : TurnT prog w A h₀ L m env elt x x₂ x₃ scope cl s₂ S P J) (j0 : J 0 [] news)
    (hRR : ∀ D C h tk m' ys news', Fr h₀ L h m → News h₀ L h ((D, lst ys) :: news') → Off1 D news' → h.Ns C m' → h₀.get? C = none → h₀.get? D = none → C ≠ L → D ≠ L → C ≠ D → (∀ p ∈ news', p.1 ≠ C) → ys.length = n → J n ys news' → RR (.ref D) C (.ok .next) { s₂ with heap := h, toks := tk }) :
    wpAny (model prog w) A (newList []) (fun acc s₃ => wpAny (model prog w) A (newFunctionEnv scope env.globals cl [] env.qual none .none (some env)) (fun cenv s₄ =>
      codeAny (model prog w) A (.compStart (.ListComp elt [⟨.Tuple [.Name x px, .Name x₂ px₂, .Name x₃ px₃] tk tp, iter, [], 0⟩] scope pos) 0 (.ref I) acc { cenv with scope := relabel scope env }) (RR acc cenv.locals) s₄) E s₃) E s₂ := by
  refine wpAny_newObj_type (wpAny_newFunctionEnv hcell (by intro y hy; simp at hy) (fun h₁ hns₁ hsb₁ => ?_) hkind)
  dsimp only at hns₁ hsb₁ ⊢
  generalize hH2 : s₂.heap.push { cls := .type "list", dict := none, data := .seq ([] : List Value).toArray } = H2 at hns₁ hsb₁ ⊢
  have hC : H2.objs.size = s₂.heap.objs.size + 1 := by rw [← hH2, Heap.size_push]
  have hDC : s₂.heap.objs.size ≠ H2.objs.size := by rw [hC]; exact Nat.ne_of_lt (Nat.lt_succ_self _)
  have below : ∀ b, b < s₂.heap.objs.size → b ≠ H2.objs.size ∧ b ≠ s₂.heap.objs.size := fun b hb => ⟨by rw [hC]; exact Nat.ne_of_lt (Nat.lt_succ_of_lt hb), Nat.ne_of_lt hb⟩
  have hDf : s₂.heap.objs.size ∉ fp := fun hm => Nat.lt_irrefl _ (hfp _ hm)
  have hCf : H2.objs.size ∉ fp := fun hm => by have := hfp _ hm; rw [hC] at this; exact Nat.lt_irrefl _ (Nat.lt_of_succ_lt this)
  have hIf : I ∈ fp := W.sub I (List.mem_singleton.mpr rfl)
  have hIlt : I < s₂.heap.objs.size := hfp I hIf
  have old : ∀ b o, s₂.heap.get? b = some o → h₁.get? b = some o := fun b o e => hsb₁.extBut b o (below b (Heap.lt_size e)).1 (Heap.get?_push_of_some _ (hH2 ▸ Heap.get?_push_of_some _ e))
  have hacc : h₁.get? s₂.heap.objs.size = some (lst []) := hsb₁.extBut _ _ hDC (Heap.get?_push_of_some _ (hH2 ▸ Heap.get?_push_size _ rfl))
  have hst₁ : St 0 h₁ := W.frame _ _ _ hst fun b _ o e => old b o e
  have fresh₀ : ∀ a, s₂.heap.objs.size ≤ a → h₀.get? a = none := fun a ha => by
    cases e : h₀.get? a with
    | none => rfl
    | some o' => exact absurd (Heap.lt_size (F.keep a o' e)) (Nat.not_lt.mpr ha)
  have hD₀ : h₀.get? s₂.heap.objs.size = none := fresh₀ _ (Nat.le_refl _)
  have hC₀ : h₀.get? H2.objs.size = none := fresh₀ _ (by rw [hC]; exact Nat.le_succ _)
  have hLlt : L < s₂.heap.objs.size := F.ns.lt
  have hDL : s₂.heap.objs.size ≠ L := Ne.symm (below L hLlt).2
  have hCL : H2.objs.size ≠ L := Ne.symm (below L hLlt).1
  have hCI : I ≠ H2.objs.size := (below I hIlt).1
  have hDI : I ≠ s₂.heap.objs.size := (below I hIlt).2
  have off₀ : Off3 I H2.objs.size s₂.heap.objs.size news := Off3.of fun p hp => ⟨off p hp, (below _ (Heap.lt_size (N p hp).1)).1, (below _ (Heap.lt_size (N p hp).1)).2⟩
  have loop : ∀ s₃ : Shared, s₃ = { s₂ with heap := h₁, toks := s₂.toks + ([] : List (PySem.Str × Value)).length } →
      codeAny (model prog w) A (.compLoop (.ListComp elt [⟨.Tuple [.Name x px, .Name x₂ px₂, .Name x₃ px₃] tk tp, iter, [], 0⟩] scope pos) 0 (.ref I) (.ref s₂.heap.objs.size) (compEnvC scope cl H2.objs.size env))
        (RR (.ref s₂.heap.objs.size) H2.objs.size) s₃ := by
    rintro s₃ rfl
    refine LCp.codeAny_compLoop_pair
      (fun k s' => ∃ h' tk i ys m' news', s' = { s₂ with heap := h', toks := tk } ∧ i ≤ n ∧ k = n + 1 - i ∧ ys.length = i ∧ St i h' ∧ Fr h₀ L h' m ∧ h'.Ns H2.objs.size m' ∧ News h₀ L h' ((s₂.heap.objs.size, lst ys) :: news') ∧
        Off3 I H2.objs.size s₂.heap.objs.size news' ∧ S news' ∧ J i ys news') ?_ (n + 1)
      ⟨h₁, _, 0, [], _, news, rfl, Nat.zero_le _, rfl, rfl, hst₁, F.keeps old, hns₁, fun p hp => ?_, off₀, hS, j0⟩
    · rintro k s' ⟨h', tk, i, ys, m', news', rfl, hi, rfl, hyl, hst', F', hn', N', off', hS', R'⟩
      by_cases hlt : i < n
      · refine W.item i _ _ _ hlt hst' fun v h₂ tk₂ hPv hst₂ hk₂ => ?_
        obtain ⟨t, ot, v₁, v₂, v₃, nt, rfl, hmt, hct, hdt, R''⟩ := R i v ys news' hPv R'
        have off3 := off'.mem
        have N₂ : News h₀ L h₂ ((s₂.heap.objs.size, lst ys) :: news') := news_but N' hk₂ fun p hp => by
          rcases List.mem_cons.mp hp with rfl | hp
          · exact Ne.symm hDI
          · exact (off3 p hp).1
        have ht : IsTup h₂ t #[v₁, v₂, v₃] := ⟨ot, (N₂ _ (List.mem_cons_of_mem _ hmt)).1, hct, nt, hdt⟩
        obtain ⟨lI, jI, hLi⟩ := hLI _ _ hst₂
        refine wpAny_letOwnedTupleGo_listiter hLi ?_
        refine assign_Tuple_tuple hh ht rfl rfl fun h₅ he => ?_
        have he' : ∀ b o, h₂.get? b = some o → h₅.get? b = some o := fun b o e => he b o (Nat.ne_of_lt (Heap.lt_size e)) e
        refine assignInOrder_cons (wpAny_assign_Name (wpAny_storeName_local (lookup_relabel_local hx) ((hn'.at' fun o e => hk₂ _ o (by simpa using Ne.symm hCI) e).at' fun o e => he' _ o e) (fun h₆ hn₆ hs₆ => ?_) (by simp [compEnvC, relabel, hkind])))
        refine assignInOrder_cons (wpAny_assign_Name (wpAny_storeName_local (lookup_relabel_local hx₂) hn₆ (fun h₇ hn₇ hs₇ => ?_) (by simp [compEnvC, relabel, hkind])))
        refine assignInOrder_cons (wpAny_assign_Name (wpAny_storeName_local (lookup_relabel_local hx₃) hn₇ (fun h₃ hn₃ hs₃ => ?_) (by simp [compEnvC, relabel, hkind])))
        refine assignInOrder_nil ?_
        have old3 : ∀ b o, b ≠ H2.objs.size → h₂.get? b = some o → h₃.get? b = some o := fun b o hb e => hs₃.extBut b o hb (hs₇.extBut b o hb (hs₆.extBut b o hb (he' b o e)))
        have hst₃ : St (i + 1) h₃ := W.frame _ _ _ hst₂ fun b hb o e => old3 b o (fun q => hCf (by rw [← q]; exact hb)) e
        obtain ⟨oC, heC, hoC⟩ := ns_obj hn₃
        obtain ⟨l3, j3, oI, heI, _, hdI⟩ := hLI _ _ hst₃
        have F₃ : Fr h₀ L h₃ m := ((((fr_but F' hk₂ hIL hI₀).keeps he').change hs₆ hCL hC₀).change hs₇ hCL hC₀).change hs₃ hCL hC₀
        have N₃ : News h₀ L h₃ ((I, oI) :: (H2.objs.size, oC) :: (s₂.heap.objs.size, lst ys) :: news') := fun p hp => by
          rcases List.mem_cons.mp hp with rfl | hp
          · exact ⟨heI, Ne.symm hIL, hI₀⟩
          · rcases List.mem_cons.mp hp with rfl | hp
            · exact ⟨heC, hCL, hC₀⟩
            · have z := N₂ p hp
              refine ⟨old3 _ _ ?_ z.1, z.2⟩
              rcases List.mem_cons.mp hp with rfl | hp
              · exact hDC
              · exact (off3 p hp).2.1
        refine wpAny_mono (R'' I oI H2.objs.size oC s₂.heap.objs.size _ h₃ _ _ ⟨_, hdI⟩ hoC (by simp [hxx.1, hxx.2.1]) (by simp [hxx.2.2]) (by simp) F₃ N₃ off' ⟨hCI, hDI, Ne.symm hDC⟩) (fun y s₄ h₄ => ?_) fun _ _ e => e
        obtain ⟨h₄, tk₄, news₄, rfl, F₄, N₄, off₄, hS₄, R₄⟩ := h₄
        have zI := (N₄ (I, oI) List.mem_cons_self).1
        have zC := (N₄ (H2.objs.size, oC) (List.mem_cons_of_mem _ List.mem_cons_self)).1
        have zD := (N₄ (s₂.heap.objs.size, lst ys) (List.mem_cons_of_mem _ (List.mem_cons_of_mem _ List.mem_cons_self))).1
        have N₄' : News h₀ L h₄ news₄ := fun p hp => N₄ p (List.mem_cons_of_mem _ (List.mem_cons_of_mem _ (List.mem_cons_of_mem _ hp)))
        have hst₄ : St (i + 1) h₄ := hSt _ _ _ _ _ hst₃ heI zI F₄.keep N₄' hS₄
        refine append_at (hsz := by show ys.toArray.size ≤ sizeLine; rw [List.size_toArray, hyl]; exact Nat.le_trans hi hsz) zD fun h₅ hs₅ hD₅ => ?_
        have off4 := off₄.mem
        refine ⟨n + 1 - (i + 1), by omega, h₅, tk₄, i + 1, ys ++ [y], _, news₄, rfl, hlt, rfl, by rw [List.length_append, List.length_singleton, hyl], W.frame _ _ _ hst₄ fun b hb o e => hs₅.extBut b o (fun q => hDf (q ▸ hb)) e, F₄.change hs₅ hDL hD₀,
          (hoC.ns zC).sameBut hs₅ (Ne.symm hDC), fun p hp => ?_, off₄, hS₄, R₄⟩
        rcases List.mem_cons.mp hp with rfl | hp
        · exact ⟨hD₅.trans (congrArg some (lst_snoc ys y)), hDL, hD₀⟩
        · exact ⟨hs₅.extBut _ _ (off4 p hp).2.2 (N₄' p hp).1, (N₄' p hp).2⟩
      · obtain rfl : i = n := Nat.le_antisymm hi (Nat.not_lt.mp hlt)
        refine W.done _ _ _ hst' fun h₂ tk₂ hk₂ => ?_
        have off3 := off'.mem
        exact hRR _ _ h₂ tk₂ _ ys news' (fr_but F' hk₂ hIL hI₀) (news_but N' hk₂ fun p hp => by
          rcases List.mem_cons.mp hp with rfl | hp
          · exact Ne.symm hDI
          · exact (off3 p hp).1) off'.one (hn'.at' fun o e => hk₂ _ o (by simpa using Ne.symm hCI) e) hC₀ hD₀ hCL hDL (Ne.symm hDC) (fun p hp => (off3 p hp).2.1) hyl R'
    · rcases List.mem_cons.mp hp with rfl | hp
      · exact ⟨hacc, hDL, hD₀⟩
      · exact ⟨old _ _ (N p hp).1, (N p hp).2⟩
  exact codeAny_compStart_list (loop _ rfl) (W.self 0 _ _ _ hst₁ (loop _ rfl))
/-- the source of such a comprehension -/
def SrcT (prog : Program) (w : World) (A : Around) (h₀ : Heap) (L : Addr) (m : PySem.Str → Option Value) (env : Env) (elt : Expr) (x x₂ x₃ : PySem.Str) (scope : Scope) (cl : List (PySem.Str × Addr)) (Q : Value → Shared → Prop) (xv : Value) (s₁ : Shared) : Prop :=
  ∃ ax its news J, xv = .ref ax ∧ A.handled = none ∧ Fr h₀ L s₁.heap m ∧ News h₀ L s₁.heap news ∧ SrcAt h₀ ax its news ∧ its.size ≤ sizeLine ∧ J 0 [] news ∧
    ∀ s₂ : Shared, (∃ h, s₂ = { s₁ with heap := h }) → TurnT prog w A h₀ L m env elt x x₂ x₃ scope cl s₂ (SrcAt h₀ ax its) (fun i v => its[i]? = some v) J ∧ ∀ ys news', ys.length = its.size → J its.size ys news' → FinE h₀ L m s₂ Q ys news'
theorem ListComp_T {elt iter : Expr} {x x₂ x₃ : PySem.Str} {px px₂ px₃ tp : Pos} {tk} {scope : Scope} {cl : List (PySem.Str × Addr)} {pos : Pos} {Q : Value → Shared → Prop} (F₀ : Fr h₀ L s.heap m)
    (hclos : closureFor scope env = pure cl) (hcell : ∀ y ∈ scope.names, y.2 ≠ .cell) (hkind : scope.kind = .function)
    (hnames : ∀ y ∈ scope.names, y.2 = .local → scope.names.lookup y.1 = some .local) (hx : scope.names.lookup x = some .local) (hx₂ : scope.names.lookup x₂ = some .local) (hx₃ : scope.names.lookup x₃ = some .local) (hxx : x ≠ x₂ ∧ x ≠ x₃ ∧ x₂ ≠ x₃)
    (h : wpAny (model prog w) A (eval iter env) (SrcT prog w A h₀ L m env elt x x₂ x₃ scope cl Q) E s)
    (hs : ∀ x, foldedSetIterable iter env x = pure x := by intro _; rfl) :
    wpAny (model prog w) A (eval (.ListComp elt [⟨.Tuple [.Name x px, .Name x₂ px₂, .Name x₃ px₃] tk tp, iter, [], 0⟩] scope pos) env) Q E s := by
  rw [eval_ListComp]
  refine wpAny_comprehension_free (use := none) rfl hs hclos hkind hnames (wpAny_mono h (fun xv s₁ h₁ => ?_) fun _ _ e => e)
  obtain ⟨ax, its, news, J, rfl, hh, F, N, S, hsz, j0, R⟩ := h₁
  have hl := S.list F.keep N
  have hlt : ax < s₁.heap.objs.size := by obtain ⟨_, e, _⟩ := hl; exact Heap.lt_size e
  refine wpAny_pyIter_list hl ?_
  have up : ∀ b o, s₁.heap.get? b = some o → (s₁.heap.push { cls := .type "list_iterator", data := .fields #[.ref ax, .int 0 0] }).get? b = some o := fun b o e => Heap.get?_push_of_some _ e
  obtain ⟨R1, R2⟩ := R _ ⟨s₁.heap.push { cls := .type "list_iterator", data := .fields #[.ref ax, .int 0 0] }, rfl⟩
  refine block_T (Walks.list hh s₁.heap.objs.size ax (Nat.ne_of_lt hlt) its) hsz list_st hcell hkind hx hx₂ hx₃ hxx hh (fun i h st => ⟨_, _, st.1⟩) ⟨⟨_, Heap.get?_push_size _ rfl, rfl, rfl⟩, hl.push _⟩ (fun b hb => ?_)
    (F.keeps up) (N.grown up) (Nat.ne_of_lt F.ns.lt) (next_is_new F) (fun p hp => Nat.ne_of_lt (Heap.lt_size (N p hp).1)) S R1 j0 ?_
  · show b < (s₁.heap.push _).objs.size
    rw [Heap.size_push]
    rcases List.mem_cons.mp hb with rfl | hb
    · exact Nat.lt_succ_self _
    · rw [List.mem_singleton.mp hb]; exact Nat.lt_succ_of_lt hlt
  · intro D C h tk m' ys news' F' N' o1 hn hC₀ hD₀ hCL hDL hCD offC hyl fin
    refine ⟨m', hn, fun h'' hs'' => R2 ys news' hyl fin D h'' tk (F'.change hs'' hCL hC₀) (fun p hp => ?_) o1⟩
    refine ⟨hs''.extBut _ _ ?_ (N' p hp).1, (N' p hp).2⟩
    rcases List.mem_cons.mp hp with rfl | hp
    · exact Ne.symm hCD
    · exact offC p hp
end
end Mine
end

section
open PySem PySem.W PyProof.Rows PySem.Spec PySem.Calls PyProof.V
namespace Mine
theorem fillT : PySem.Challenge.rw_jv0049_01.Holds → (Mine.KF = Mine.KF) → True := by (k_fill; intros; trivial)

local macro_rules | `(tactic| k_room) => `(tactic| ktr_room)
local macro_rules | `(tactic| k_units) => `(tactic| ktr_units)
local macro_rules | `(tactic| k_enter) => `(tactic| first
  | (refine' code_def ?k1 ?k2 ?k3 ?k4 ?k5 ?kA ?kF ?kK ?k6 ?k7 ?k8 ?k9 ?kB ?_ ?c2 ?c3 ?c4 ?c5; (case kA => exact rfl); (case kF => exact rfl); (case kK => first | exact rfl | assumption); (case k1 => k_asm); (case k2 => k_asm); (case k3 => k_asm); (case k4 => k_asm); (case k5 => k_asm); (case k6 => k_is); (case k7 => k_is); (case k8 => k_room); (case k9 => first | exact BindsTo.of_eq rfl | exact binds_K (by k_in) rfl (by k_is) rfl rfl rfl | fail "k_enter: no rule for these arguments"); (case c5 => decide); (case kB => exact locs rfl); (case c2 => exact rfl); (case c3 => exact rfl); (case c4 => exact rfl); k_whole; intro g' L' h' FG' F' N' B' X' T'; (try dsimp only); (try k_lift B'); (try k_fold))
  | (refine' code_defC ?k1 ?k2 ?k3 ?k4 ?k5 ?kA ?kF ?kK ?k6 ?k7 ?k8 ?k9 ?kB ?kD ?_ ?c2 ?c3 ?c4; (case kA => exact rfl); (case kF => exact rfl); (case kK => first | exact rfl | assumption); (case k1 => k_asm); (case k2 => k_asm); (case k3 => k_asm); (case k4 => k_asm); (case k5 => k_asm); (case k6 => k_is); (case k7 => k_is); (case k8 => k_room); (case k9 => first | exact BindsTo.of_eq rfl | exact binds_K (by k_in) rfl (by k_is) rfl rfl rfl | fail "k_enter: no rule for these arguments"); (case kB => exact rfl); (case kD => decide +kernel); (case c2 => exact rfl); (case c3 => exact rfl); (case c4 => exact rfl); k_whole; intro g' L' h' tk' cells' FG' F' N' Y' B' X' T' l1; (try k_lt l1); k_cells Y'; (try simp only [List.cons_append, List.nil_append] at N'); (try dsimp only); (try k_lift B'); (try k_fold)))
/- entering a def with a part of the ledger: N, hne in the context are named -/
local macro_rules | `(tactic| ktr_enter) => `(tactic| first | (refine' code_defCF (by assumption) (by assumption) ?k1 ?k2 ?k3 ?k5 ?kA ?kF ?kK ?k6 ?k7 ?k8 ?k9 ?kB ?kD ?_ ?c2 ?c3 ?c4; (case kA => exact rfl); (case kF => exact rfl); (case kK => first | exact rfl | assumption); (case k1 => k_asm); (case k2 => k_asm); (case k3 => k_asm); (case k5 => k_asm); (case k6 => k_is); (case k7 => k_is); (case k8 => ktr_room); (case k9 => first | exact BindsTo.of_eq rfl | exact binds_K (by k_in) rfl (by k_is) rfl rfl rfl | fail "ktr_enter: no rule for these arguments"); (case kB => exact rfl); (case kD => decide +kernel); (case c2 => exact rfl); (case c3 => exact rfl); (case c4 => exact rfl); k_whole; intro g' L' h' tk' cells' FG' F' N' Y' B' X' T' l1; (try k_lt l1); k_cells Y'; (try simp only [List.cons_append, List.nil_append] at N'); (try dsimp only); (try k_fold)) | (refine' code_defF (by assumption) (by assumption) ?k1 ?k2 ?k3 ?k5 ?kA ?kF ?kK ?k6 ?k7 ?k8 ?k9 ?kB ?_ ?c2 ?c3 ?c4 ?c5; (case kA => exact rfl); (case kF => exact rfl); (case kK => first | exact rfl | assumption); (case k1 => k_asm); (case k2 => k_asm); (case k3 => k_asm); (case k5 => k_asm); (case k6 => k_is); (case k7 => k_is); (case k8 => ktr_room); (case k9 => first | exact BindsTo.of_eq rfl | exact binds_K (by k_in) rfl (by k_is) rfl rfl rfl | fail "ktr_enter: no rule for these arguments"); (case c5 => decide); (case kB => exact locs rfl); (case c2 => exact rfl); (case c3 => exact rfl); (case c4 => exact rfl); k_whole; intro g' L' h' FG' F' N' B' X' T'; (try dsimp only); (try k_fold)))


local macro_rules | `(tactic| lcg_off) => `(tactic| (simp only [LCg.Off3, and_true]; assumption))




local macro_rules | `(tactic| walk_at $s:str) => `(tactic| k_extra $s)

section
open PySem PySem.W PyProof.Rows PySem.Spec PySem.Calls
section
theorem rows1 : True := by
  k_with_none
  k_with "compareOp In str str" => (k_here; first | refine in_strD (b := true) (by decide +kernel) ?_ | refine in_strD (b := false) (by decide +kernel) ?_)
  k_with "exec Assign cons ListComp" => (k_here; (with_reducible show wpAny _ _ (exec (Stmt.Assign [Expr.Attribute _ _ _] _ _) _) _ _ _); with_reducible refine plainObj_wpAny_Assign_Attribute ?_ ?_; rotate_left; with_unfolding_all rfl)
  k_with "exec For Tuple Attribute cons nil" => (k_here; (rename Fr _ _ _ _ => lF'); (with_unfolding_all refine' For_turns lF' ?_; k_whole))
  k_with "call builtin:dict.get" => (k_here; k_dflt (refine kdg_get2 (knd := PySem.strKind _ _) (by k_asm) (by k_mem) (by k_asm) (by assumption) (strKind_is _ _ _ _) _ (by assumption) ?_); (try dsimp only [Option.getD]))
  k_with "truthy str" => (k_here; refine truthy_strT (by omega) ?_)
  k_with "subscriptTail" => (k_here; k_dflt ((with_reducible show wpAny _ _ (subscriptTail _ _ (Value.ref _) (Value.str _ _)) _ _ _); refine kdt_tail (knd := PySem.strKind _ _) (by k_asm) (by k_mem) (by k_asm) ?_))
  k_with "getItem ref str" => (k_here; k_dflt (refine kdt_getItem (knd := PySem.strKind _ _) (by k_asm) (by k_mem) (by k_asm) (strKind_is _ _ _ _) (by first | assumption | rfl) ?_))
  k_with "mem" => (repeat (first | exact List.Mem.head _ | assumption | refine List.Mem.tail _ ?_))
  k_with "sub" => ((try dsimp only [List.cons_append, List.nil_append]); (repeat (refine List.forall_mem_cons.mpr ⟨by walk_at "mem", ?_⟩)); first | (intro p hp; walk_at "mem"; done) | exact fun _ h => (List.not_mem_nil h).elim)
  k_with "getMethod str" => (k_here; (with_reducible refine enc_method ?_))
  k_with "compareOp In str str" => (k_here; refine in_strD (b := true) (by assumption) ?_)
  trivial
def V15 : List PySem.Str := (["v", "W7", "z-z", "0_", "q.~"].map fun p => [PySem.Str.ofString (p ++ "1"), PySem.Str.ofString (p ++ "2"), PySem.Str.ofString (p ++ "3")]).flatten
def bytesOf (v : PySem.Str) : Array UInt8 := v.cps.map Nat.toUInt8
def codesOf (v : PySem.Str) : List Int := v.cps.toList.map Int.ofNat
theorem v15_enc : ∀ v ∈ V15, ∀ id x, Builtin._codecs.encodeNarrow id Builtin._codecs.utf8Codec none x v = pure (bytesOf v) := by
  intro v hv
  simp only [V15, List.map_cons, List.map_nil, List.flatten_cons, List.flatten_nil, List.cons_append, List.nil_append, List.mem_cons, List.not_mem_nil, or_false] at hv
  rcases hv with rfl | rfl | rfl | rfl | rfl | rfl | rfl | rfl | rfl | rfl | rfl | rfl | rfl | rfl | rfl <;> (intro id x; kernel_rfl)
theorem v15_ints : ∀ v ∈ V15, KBw.bInts (bytesOf v) = codesOf v := by decide +kernel
theorem v15_size : ∀ v ∈ V15, (bytesOf v).size ≤ 16777216 := by decide +kernel
def unresS : PySem.Str := PySem.Str.ofString "abcdefghijklmnopqrstuvwxyzABCDEFGHIJKLMNOPQRSTUVWXYZ0123456789~-_."
def unresC : List Int := codesOf unresS
theorem v15_unres : ∀ v ∈ V15, ∀ c ∈ codesOf v, c ∈ unresC := by decide +kernel
def chrS (c : Int) : PySem.Str := ⟨#[c.toNat]⟩
theorem v15_join : ∀ v ∈ V15, Txt.join (PySem.Str.ofString "") ((codesOf v).map chrS) = v := by decide +kernel
theorem v15_len : ∀ v ∈ V15, (codesOf v).length ≤ 4 := by decide +kernel
theorem unres_range : ∀ c ∈ unresC, 0 ≤ c ∧ c < 128 := by decide +kernel
theorem unres_in : ∀ c ∈ unresC, (!(Builtin.Str.occurrences (PySem.Str.ofString "abcdefghijklmnopqrstuvwxyzABCDEFGHIJKLMNOPQRSTUVWXYZ0123456789~-_.") (⟨#[c.toNat]⟩ : PySem.Str) 0 (PySem.Str.ofString "abcdefghijklmnopqrstuvwxyzABCDEFGHIJKLMNOPQRSTUVWXYZ0123456789~-_.").length 1).isEmpty) = true := by decide +kernel
theorem strsAre_snoc : ∀ {vs : List Value} {ps : List PySem.Str}, StrsAre vs ps → ∀ (y : PySem.Str) (t : Tok), StrsAre (vs ++ [.str y t]) (ps ++ [y])
  | _, _, .nil, y, t => .cons y t .nil
  | _, _, .cons z u h, y, t => .cons z u (strsAre_snoc h y t)
theorem strsAre_len : ∀ {vs : List Value} {ps : List PySem.Str}, StrsAre vs ps → vs.length = ps.length
  | _, _, .nil => rfl
  | _, _, .cons _ _ h => by simp [strsAre_len h]
theorem ones_len (l : List Int) : ((l.map chrS).map (·.length)).sum = l.length := by
  induction l with
  | nil => rfl
  | cons c r ih => simp only [List.map_cons, List.sum_cons, ih, List.length_cons]; show 1 + _ = _; omega
theorem listOf_snoc (vs : List Value) (y : Value) : W.listOf (vs.toArray.push y) (vs.length + 1) = W.listOf (vs ++ [y]).toArray (vs ++ [y]).length := by simp
/-- the ledger is one list of texts -/
def StrL (l : Addr) (news : Led) (ps : List PySem.Str) : Prop := ∃ vs, StrsAre vs ps ∧ news = [(l, W.listOf vs.toArray vs.length)]
theorem StrL.snoc {l : Addr} {vs : List Value} {ps : List PySem.Str} (h : StrsAre vs ps) (y : PySem.Str) (t : Tok) : StrL l [(l, W.listOf (vs.toArray.push (.str y t)) (vs.length + 1))] (ps ++ [y]) :=
  ⟨_, strsAre_snoc h y t, by rw [listOf_snoc]⟩
theorem mput_self {m : PySem.Str → Option Value} {x : PySem.Str} {v : Option Value} (h : m x = v) : m = fun y => if y = x then v else m y := by
  funext y
  by_cases e : y = x
  · rw [if_pos e, e, h]
  · rw [if_neg e]
theorem bytes_ind {prog : Program} {w : World} {A : Around} {E : Value → Shared → Prop} {h₀ : Heap} {env : Env} {x : PySem.Str} {body : List Stmt} {Q : Flow → Shared → Prop} {s : Shared} {I : Addr} (J : List Int → (PySem.Str → Option Value) → Led → Prop)
   (e0 : ∀ m news, J [] m news → ∀ h tk, Fr h₀ env.locals h m → News h₀ env.locals h news → Q .next { s with heap := h, toks := tk })
   (e1 : ∀ c r m news, J (c :: r) m news → ∀ (u : Tok) (it : Obj) h tk, Fr h₀ env.locals h (fun y => if y = x then some (.int c u) else m y) → News h₀ env.locals h ((I, it) :: news) →
      wpAny (model prog w) A (execs body env) (UnrPost h₀ env.locals { s with heap := h, toks := tk } I it (J r) Q) E { s with heap := h, toks := tk }) :
   ∀ l m news, J l m news → BytesRest prog w A E h₀ env x body Q s I l m news
  | [], m, news, j => fun h tk F N => e0 m news j h tk F N
  | c :: r, m, news, j => fun _ _ u it h tk F N => by
    refine wpAny_mono (e1 c r m news j u it h tk F N) (fun f s₂ p => ?_) fun _ _ e => e
    cases f with
    | ret v => exact p
    | brk => exact p
    | next => obtain ⟨h', tk', m', n', a, b, c', d, e⟩ := p; exact ⟨h', tk', m', n', a, b, c', d, bytes_ind J e0 e1 r m' n' e⟩
    | cont => obtain ⟨h', tk', m', n', a, b, c', d, e⟩ := p; exact ⟨h', tk', m', n', a, b, c', d, bytes_ind J e0 e1 r m' n' e⟩
theorem quote_v (w : World) (t1 t2 : Tok) (v : PySem.Str) (hv : v ∈ V15) :
   Ctr 40 w 304 [.str v t1, .str (PySem.Str.ofString "") t2] [] (RPost [] fun tl r => tl = [] ∧ ∃ t, r = .str v t) := by
  intro mean mg mb dp un gd cn cs a ccd cl outer A₀ base h₀ L m rest s Q E B F X N hne T hk hdp hun hret
  refine wpAny_call ?_
  k_dflt ktr_enter
  clear N hne F
  k_steps
  refine enc_call (v15_enc v hv) (v15_size v hv) ?_
  intro _ _
  k_steps
  rename Fr _ _ _ _ => lF'
  rename News _ _ _ _ => lN'
  have lN2 := cb_drop (news := [_]) lN' (fun p hp => by rw [List.mem_singleton.mp hp]; exact List.Mem.head _)
  clear lN'
  with_unfolding_all refine iter_bytesUnr (l := codesOf v) (by rfl) lF' lN2 (v15_ints v hv) ?_
  clear lF' lN2
  intro I l1
  rename_i l' _ _ _
  k_lt l1
  have hlen := v15_len v hv
  refine bytes_ind (fun l m news => (∃ pre, codesOf v = pre ++ l ∧ StrL l' news (pre.map chrS)) ∧ m (PySem.Str.ofString "parts") = some (.ref l') ∧ m (PySem.Str.ofString "safe") = some (.str (PySem.Str.ofString "") t2)) ?_ ?_ _ _ _ ?_
  · rintro m news ⟨⟨pre, hcs, vs, hs, rfl⟩, hm1, hm2⟩ h tk F' N'
    rw [mput_self hm1] at F'
    rw [List.append_nil] at hcs
    subst hcs
    k_steps
    refine join_listW (by is_list) hs (by decide) (by have h1 := ones_len (codesOf v); have h2 := List.length_map (as := codesOf v) chrS; omega) ?_
    intro t' k
    rw [v15_join v hv]
    k_steps
    exact hret _ [] _ _ (by k_asm) (by k_asm) ⟨[], rfl, rfl, _, rfl⟩
  · rintro c r m news ⟨⟨pre, hcs, vs, hs, rfl⟩, hm1, hm2⟩ u it h tk F' N'
    have hc : c ∈ unresC := v15_unres v hv c (by rw [hcs]; simp)
    have hrange := unres_range c hc
    have hin := unres_in c hc
    have hvl := strsAre_len hs
    have hpl : pre.length + (r.length + 1) ≤ 4 := by have := congrArg List.length hcs; simp only [List.length_append, List.length_cons] at this; omega
    rw [List.length_map] at hvl
    rw [mput_self hm1, mput_self hm2] at F'
    k_steps
    refine ⟨_, _, _, [(l', _)], rfl, (by k_asm), (by k_asm), ?_, ⟨pre ++ [c], ?_, ?_⟩, rfl, rfl⟩
    · intro p hp
      rw [List.mem_singleton.mp hp]
      show l' ≠ I
      k_ne
    · rw [hcs]; simp
    · rw [List.map_append, List.map_singleton]
      exact StrL.snoc hs _ _
  · exact ⟨⟨[], rfl, [], .nil, rfl⟩, rfl, rfl⟩
end
section
variable {w : World} {led : Led} {mean : ExcName → Option Value} {mg mb : Str → Option Value} {dp un : Nat} {gd : Option (List Code)} {cn : Str} {cs : Scope} {a : Addr} {ccd : Value} {cl : List (Str × Addr)} {outer : List Env} {A₀ : Around} {base h₀ : Heap} {L : Addr} {m : Str → Option Value} {s : Shared} {Q E : Value → Shared → Prop}
theorem quote_use {v : PySem.Str} {t1 t2 : Tok} (hv : v ∈ V15) (B : Below A₀ base outer h₀) (F : Fr h₀ L s.heap m) (X : (KF w.params).In h₀) (N : News h₀ L s.heap led) (T : Top vw LS mean mg mb h₀) (hk : cs.kind = .function)
   (hdp : dp + 40 < recursionLimit) (hun : un + 10 * 40 < cLine)
   (hret : ∀ t h' tk', Fr h₀ L h' m → News h₀ L h' led → Q (.str v t) { s with heap := h', toks := tk' }) :
   wpAny (model MProg w) (ktrTop dp un gd cn cs L a ccd cl outer) (call (.ref 304) [.str v t1, .str (PySem.Str.ofString "") t2]) Q E s := by
  refine Ctr.useR (quote_v w t1 t2 v hv) B F X N T hk (List.forall_mem_nil _) hdp hun ?_
  rintro r tl h' tk' F' N' ⟨rfl, t, rfl⟩
  exact hret t h' tk' F' N'
end
end

section
open PySem PySem.W PyProof.Rows PySem.Spec PySem.Calls
section
theorem rows2 : True := by
  k_with_none
  k_with "compareOp In str str" => (k_here; first | refine in_strD (b := true) (by decide +kernel) ?_ | refine in_strD (b := false) (by decide +kernel) ?_)
  k_with "exec Assign cons ListComp" => (k_here; (with_reducible show wpAny _ _ (exec (Stmt.Assign [Expr.Attribute _ _ _] _ _) _) _ _ _); with_reducible refine plainObj_wpAny_Assign_Attribute ?_ ?_; rotate_left; with_unfolding_all rfl)
  k_with "exec For Tuple Attribute cons nil" => (k_here; (rename Fr _ _ _ _ => lF'); (with_unfolding_all refine' For_turns lF' ?_; k_whole))
  k_with "call builtin:dict.get" => (k_here; k_dflt (refine kdg_get2 (knd := PySem.strKind _ _) (by k_asm) (by k_mem) (by k_asm) (by assumption) (strKind_is _ _ _ _) _ (by assumption) ?_); (try dsimp only [Option.getD]))
  k_with "truthy str" => (k_here; refine truthy_strT (by omega) ?_)
  k_with "subscriptTail" => (k_here; k_dflt ((with_reducible show wpAny _ _ (subscriptTail _ _ (Value.ref _) (Value.str _ _)) _ _ _); refine kdt_tail (knd := PySem.strKind _ _) (by k_asm) (by k_mem) (by k_asm) ?_))
  k_with "getItem ref str" => (k_here; k_dflt (refine kdt_getItem (knd := PySem.strKind _ _) (by k_asm) (by k_mem) (by k_asm) (strKind_is _ _ _ _) (by first | assumption | rfl) ?_))
  k_with "mem" => (repeat (first | exact List.Mem.head _ | assumption | refine List.Mem.tail _ ?_))
  k_with "sub" => ((try dsimp only [List.cons_append, List.nil_append]); (repeat (refine List.forall_mem_cons.mpr ⟨by walk_at "mem", ?_⟩)); first | (intro p hp; walk_at "mem"; done) | exact fun _ h => (List.not_mem_nil h).elim)
  k_with "call ref" => (k_here; (with_reducible show wpAny _ _ (call (Value.ref 304) _) _ _ _); k_dflt (refine quote_use (by assumption) (by k_asm) (by k_asm) (by k_asm) (by k_asm) (by k_asm) (by first | exact rfl | assumption) (by ktr_room) (by ktr_units)  ?_); intro t'q h'q tk'q F'q N'q; (try k_sweep))
  trivial
abbrev fld (w : World) (nm : PySem.Str) (t : Tok) (v : Value) : PySem.DictEntry := { hash := PyData.keyHash w.params nm, key := .str nm t, val := v }
/-- an Operator of no sign -/
abbrev opLed (w : World) (op dop : Addr) (t1 t2 : Tok) : Led := [(op, instObj 190 dop), (dop, dictOf [fld w (PySem.Str.ofString "value") t1 (.str (PySem.Str.ofString "") t2)] 1)]
theorem op_quote (w : World) (op dop : Addr) (t1 t2 t3 : Tok) (v : PySem.Str) (hv : v ∈ V15) :
   Ctr 60 w 177 [.ref op, .str v t3] (opLed w op dop t1 t2) (RPost (opLed w op dop t1 t2) fun tl r => tl = [] ∧ ∃ t, r = .str v t) := by
  intro mean mg mb dp un gd cn cs a ccd cl outer A₀ base h₀ L m rest s Q E B F X N hne T hk hdp hun hret
  refine wpAny_call ?_
  k_dflt ktr_enter
  clear N hne F
  rename News _ _ _ _ => N1
  simp only [opLed] at N1
  k_steps
  rename News _ _ _ rest => hR
  revert hR
  rename News h₀ L _ _ => hN
  intro hR
  refine hret _ ([] ++ opLed w op dop t1 t2) _ _ (by k_asm) (news_join hN hR ?_) ⟨_, rfl, rfl, _, rfl⟩
  · lcg_sub
theorem is_lot (w : World) (t3 : Tok) (v : PySem.Str) (hv : 0 < v.length ∧ v.length ≤ 1000) :
   Ctr 60 w 276 [.str v t3] [] (RPost [] fun tl r => ∃ D, r = .ref D ∧ tl = [(D, { cls := .type "tuple", data := .seq #[.bool false, .none] })]) := by
  intro mean mg mb dp un gd cn cs a ccd cl outer A₀ base h₀ L m rest s Q E B F X N hne T hk hdp hun hret
  refine wpAny_call ?_
  k_dflt ktr_enter
  clear N hne F
  k_steps
  rename News _ _ _ rest => hR
  revert hR
  rename News h₀ L _ _ => hN
  intro hR
  refine hret _ ([(_, _)] ++ []) _ _ (by k_asm) (news_join hN hR ?_) ⟨_, rfl, _, rfl, rfl⟩
  · lcg_sub
variable {w : World} {led : Led} {mean : ExcName → Option Value} {mg mb : PySem.Str → Option Value} {dp un : Nat} {gd : Option (List Code)} {cn : PySem.Str} {cs : Scope} {a : Addr} {ccd : Value} {cl : List (PySem.Str × Addr)} {outer : List Env} {A₀ : Around} {base h₀ : Heap} {L : Addr} {m : PySem.Str → Option Value} {s : Shared} {Q E : Value → Shared → Prop}
theorem op_quote_use {op dop : Addr} {t1 t2 t3 : Tok} {v : PySem.Str} (hv : v ∈ V15) (B : Below A₀ base outer h₀) (F : Fr h₀ L s.heap m) (X : (Mine.KF w.params).In h₀) (N : News h₀ L s.heap led) (T : Top Mine.vw LS mean mg mb h₀) (hk : cs.kind = .function) (hdp : dp + 60 < recursionLimit) (hun : un + 10 * 60 < cLine)
   (hsub : ∀ p ∈ opLed w op dop t1 t2, p ∈ led)
   (hret : ∀ t h' tk', Fr h₀ L h' m → News h₀ L h' led → Q (.str v t) { s with heap := h', toks := tk' }) :
   wpAny (model MProg w) (ktrTop dp un gd cn cs L a ccd cl outer) (call (.ref 177) [.ref op, .str v t3]) Q E s := by
  refine Ctr.useR (op_quote w op dop t1 t2 t3 v hv) B F X N T hk hsub hdp hun ?_
  rintro r tl h' tk' F' N' ⟨rfl, t, rfl⟩
  exact hret t h' tk' F' N'
theorem is_lot_use {t3 : Tok} {v : PySem.Str} (hv : 0 < v.length ∧ v.length ≤ 1000) (B : Below A₀ base outer h₀) (F : Fr h₀ L s.heap m) (X : (Mine.KF w.params).In h₀) (N : News h₀ L s.heap led) (T : Top Mine.vw LS mean mg mb h₀) (hk : cs.kind = .function) (hdp : dp + 60 < recursionLimit) (hun : un + 10 * 60 < cLine)
   (hret : ∀ D h' tk', Fr h₀ L h' m → News h₀ L h' ((D, { cls := .type "tuple", data := .seq #[.bool false, .none] }) :: led) → Q (.ref D) { s with heap := h', toks := tk' }) :
   wpAny (model MProg w) (ktrTop dp un gd cn cs L a ccd cl outer) (call (.ref 276) [.str v t3]) Q E s := by
  refine Ctr.useR (is_lot w t3 v hv) B F X N T hk (List.forall_mem_nil _) hdp hun ?_
  rintro r tl h' tk' F' N' ⟨D, rfl, rfl⟩
  exact hret D h' tk' F' N'
end
end

section
open PySem PySem.W PyProof.Rows PySem.Spec PySem.Calls
section
theorem rows3 : True := by
  k_with_none
  k_with "compareOp In str str" => (k_here; first | refine in_strD (b := true) (by decide +kernel) ?_ | refine in_strD (b := false) (by decide +kernel) ?_)
  k_with "exec Assign cons ListComp" => (k_here; (with_reducible show wpAny _ _ (exec (Stmt.Assign [Expr.Attribute _ _ _] _ _) _) _ _ _); with_reducible refine plainObj_wpAny_Assign_Attribute ?_ ?_; rotate_left; with_unfolding_all rfl)
  k_with "exec For Tuple Attribute cons nil" => (k_here; (rename Fr _ _ _ _ => lF'); (with_unfolding_all refine' For_turns lF' ?_; k_whole))
  k_with "call builtin:dict.get" => (k_here; k_dflt (refine kdg_get2 (knd := PySem.strKind _ _) (by k_asm) (by k_mem) (by k_asm) (by assumption) (strKind_is _ _ _ _) _ (by assumption) ?_); (try dsimp only [Option.getD]))
  k_with "truthy str" => (k_here; refine truthy_strT (by omega) ?_)
  k_with "subscriptTail" => (k_here; k_dflt ((with_reducible show wpAny _ _ (subscriptTail _ _ (Value.ref _) (Value.str _ _)) _ _ _); refine kdt_tail (knd := PySem.strKind _ _) (by k_asm) (by k_mem) (by k_asm) ?_))
  k_with "getItem ref str" => (k_here; k_dflt (refine kdt_getItem (knd := PySem.strKind _ _) (by k_asm) (by k_mem) (by k_asm) (strKind_is _ _ _ _) (by first | assumption | rfl) ?_))
  k_with "mem" => (repeat (first | exact List.Mem.head _ | assumption | refine List.Mem.tail _ ?_))
  k_with "sub" => ((try dsimp only [List.cons_append, List.nil_append]); (repeat (refine List.forall_mem_cons.mpr ⟨by walk_at "mem", ?_⟩)); first | (intro p hp; walk_at "mem"; done) | exact fun _ h => (List.not_mem_nil h).elim)
  k_with "call ref" => (k_here; (with_reducible show wpAny _ _ (call (Value.ref 177) _) _ _ _); k_dflt (refine op_quote_use (by assumption) (by k_asm) (by k_asm) (by k_asm) (by k_asm) (by k_asm) (by first | exact rfl | assumption) (by ktr_room) (by ktr_units) (by lcg_sub) ?_); intro t'q h'q tk'q F'q N'q; (try k_sweep))
  k_with "call ref" => (k_here; (with_reducible show wpAny _ _ (call (Value.ref 276) _) _ _ _); k_dflt (refine is_lot_use (by assumption) (by k_asm) (by k_asm) (by k_asm) (by k_asm) (by k_asm) (by first | exact rfl | assumption) (by ktr_room) (by ktr_units)  ?_); intro D'q h'q tk'q F'q N'q; (try k_sweep))
  trivial
/-- the instance of a variable: its dict -/
abbrev uvDict (w : World) (nm : PySem.Str) (op vars dflt : Addr) (t3 t4 t5 t6 t7 t8 : Tok) (vn : Value) : Obj :=
  dictOf [fld w (PySem.Str.ofString "original") t4 (.str nm t3), fld w (PySem.Str.ofString "operator") t5 (.ref op), fld w (PySem.Str.ofString "variables") t6 (.ref vars), fld w (PySem.Str.ofString "variable_names") t7 vn, fld w (PySem.Str.ofString "defaults") t8 (.ref dflt)] 5
theorem str_exp (w : World) (x d op dop vars dflt : Addr) (t1 t2 t3 t4 t5 t6 t7 t8 t9 t10 : Tok) (vn : Value) (nm nm' v : PySem.Str) (hv : v ∈ V15) (hv1 : 0 < v.length ∧ v.length ≤ 1000) :
   Ctr 100 w 254 [.ref x, .str nm' t9, .str v t10, .bool false, .none] ((x, instObj 265 d) :: (d, uvDict w nm op vars dflt t3 t4 t5 t6 t7 t8 vn) :: opLed w op dop t1 t2)
     (RPost ((x, instObj 265 d) :: (d, uvDict w nm op vars dflt t3 t4 t5 t6 t7 t8 vn) :: opLed w op dop t1 t2) fun tl r => tl = [] ∧ ∃ t, r = .str v t) := by
  intro mean mg mb dp un gd cn cs a ccd cl outer A₀ base h₀ L m rest s Q E B F X N hne T hk hdp hun hret
  refine wpAny_call ?_
  k_dflt ktr_enter
  clear N hne F
  rename News _ _ _ _ => N1
  simp only [opLed] at N1
  k_steps
  rename News _ _ _ rest => hR
  revert hR
  rename News h₀ L _ _ => hN
  intro hR
  refine hret _ ([] ++ ((x, instObj 265 d) :: (d, uvDict w nm op vars dflt t3 t4 t5 t6 t7 t8 vn) :: opLed w op dop t1 t2)) _ _ (by k_asm) (news_join hN hR ?_) ⟨_, rfl, rfl, _, rfl⟩
  · lcg_sub
variable {w : World} {led : Led} {mean : ExcName → Option Value} {mg mb : PySem.Str → Option Value} {dp un : Nat} {gd : Option (List Code)} {cn : PySem.Str} {cs : Scope} {a : Addr} {ccd : Value} {cl : List (PySem.Str × Addr)} {outer : List Env} {A₀ : Around} {base h₀ : Heap} {L : Addr} {m : PySem.Str → Option Value} {s : Shared} {Q E : Value → Shared → Prop}
theorem str_exp_use {x d op dop vars dflt : Addr} {t1 t2 t3 t4 t5 t6 t7 t8 t9 t10 : Tok} {vn : Value} {nm nm' v : PySem.Str} (hv : v ∈ V15) (hv1 : 0 < v.length ∧ v.length ≤ 1000) (B : Below A₀ base outer h₀) (F : Fr h₀ L s.heap m) (X : (Mine.KF w.params).In h₀) (N : News h₀ L s.heap led) (T : Top Mine.vw LS mean mg mb h₀) (hk : cs.kind = .function) (hdp : dp + 100 < recursionLimit) (hun : un + 10 * 100 < cLine)
   (hsub : ∀ p ∈ ((x, instObj 265 d) :: (d, uvDict w nm op vars dflt t3 t4 t5 t6 t7 t8 vn) :: opLed w op dop t1 t2), p ∈ led)
   (hret : ∀ t h' tk', Fr h₀ L h' m → News h₀ L h' led → Q (.str v t) { s with heap := h', toks := tk' }) :
   wpAny (model MProg w) (ktrTop dp un gd cn cs L a ccd cl outer) (call (.ref 254) [.ref x, .str nm' t9, .str v t10, .bool false, .none]) Q E s := by
  refine Ctr.useR (str_exp w x d op dop vars dflt t1 t2 t3 t4 t5 t6 t7 t8 t9 t10 vn nm nm' v hv hv1) B F X N T hk hsub hdp hun ?_
  rintro r tl h' tk' F' N' ⟨rfl, t, rfl⟩
  exact hret t h' tk' F' N'
end
end

section
open PySem PySem.W PyProof.Rows PySem.Spec PySem.Calls
section
theorem rows4 : True := by
  k_with_none
  k_with "compareOp In str str" => (k_here; first | refine in_strD (b := true) (by decide +kernel) ?_ | refine in_strD (b := false) (by decide +kernel) ?_)
  k_with "exec Assign cons ListComp" => (k_here; (with_reducible show wpAny _ _ (exec (Stmt.Assign [Expr.Attribute _ _ _] _ _) _) _ _ _); with_reducible refine plainObj_wpAny_Assign_Attribute ?_ ?_; rotate_left; with_unfolding_all rfl)
  k_with "exec For Tuple Attribute cons nil" => (k_here; (rename Fr _ _ _ _ => lF'); (with_unfolding_all refine' For_turns lF' ?_; k_whole))
  k_with "call builtin:dict.get" => (k_here; k_dflt (refine kdg_get2 (knd := PySem.strKind _ _) (by k_asm) (by k_mem) (by k_asm) (by assumption) (strKind_is _ _ _ _) _ (by assumption) ?_); (try dsimp only [Option.getD]))
  k_with "truthy str" => (k_here; refine truthy_strT (by omega) ?_)
  k_with "subscriptTail" => (k_here; k_dflt ((with_reducible show wpAny _ _ (subscriptTail _ _ (Value.ref _) (Value.str _ _)) _ _ _); refine kdt_tail (knd := PySem.strKind _ _) (by k_asm) (by k_mem) (by k_asm) ?_))
  k_with "getItem ref str" => (k_here; k_dflt (refine kdt_getItem (knd := PySem.strKind _ _) (by k_asm) (by k_mem) (by k_asm) (strKind_is _ _ _ _) (by first | assumption | rfl) ?_))
  k_with "mem" => (repeat (first | exact List.Mem.head _ | assumption | refine List.Mem.tail _ ?_))
  k_with "sub" => ((try dsimp only [List.cons_append, List.nil_append]); (repeat (refine List.forall_mem_cons.mpr ⟨by walk_at "mem", ?_⟩)); first | (intro p hp; walk_at "mem"; done) | exact fun _ h => (List.not_mem_nil h).elim)
  k_with "call ref" => (k_here; (with_reducible show wpAny _ _ (call (Value.ref 254) _) _ _ _); k_dflt (refine str_exp_use (by assumption) (by omega) (by k_asm) (by k_asm) (by k_asm) (by k_asm) (by k_asm) (by first | exact rfl | assumption) (by ktr_room) (by ktr_units) (by lcg_sub) ?_); intro t'q h'q tk'q F'q N'q; (try k_sweep))
  k_with "call builtin:str.join" => (k_here; (with_reducible show wpAny _ _ (call (Value.builtin _) [Value.str _ _, Value.ref _]) _ _ _); k_dflt (refine join_one (by is_list) (by kct_strs) (by omega) (by decide) ?_); intro _ _)
  k_with "binaryOp Add str str" => (k_here; k_dflt (refine add_emp (by omega) ?_); intro _ _)
  k_with "eval Dict" => (k_here; k_dflt (refine kdn_eval (knd := PySem.strKind _ _) (by k_asm) (by k_asm) (by exact Top.nolimit (by k_asm)) (by rfl) (by rfl) (by exact List.cons_ne_nil _ _) (by exact Nat.le_of_ble_eq_true rfl) ?_); intro d'q h'q o'q F'q N'q l1q lo'q hd'q; (try k_lt l1q))
  k_with "KdnMade" => (k_here; k_dflt (refine kdn_made_str (by k_asm) (by k_asm) (by k_updF) (by k_asm) (by rfl) (by exact .cons (fun _ hp => nomatch hp) .nil) ?_; intro h'q o'q F'q N'q hd'q); (try dsimp only at N'q))
  trivial
/-- what a variable of the name nm stands on -/
abbrev uvLed (w : World) (nm : PySem.Str) (x d op dop vars tup opts dflt : Addr) (t1 t2 t3 t4 t5 t6 t7 t8 t9 : Tok) (vn : Value) (oO oD : Obj) : Led :=
  [(x, instObj 265 d), (d, uvDict w nm op vars dflt t3 t4 t5 t6 t7 t8 vn), (op, instObj 190 dop), (dop, dictOf [fld w (PySem.Str.ofString "value") t1 (.str (PySem.Str.ofString "") t2)] 1),
   (vars, W.listOf #[.ref tup] 1), (tup, { cls := .type "tuple", data := .seq #[.str nm t9, .ref opts] }), (opts, oO), (dflt, oD)]
structure UvOk (w : World) (oO oD : Obj) (opts dflt : Addr) : Prop where
  hopts : Obj.IsDictOf (PySem.strKind MProg w) oO [(PySem.Str.ofString "explode", .bool false), (PySem.Str.ofString "prefix", .none)]
  hdflt : Obj.IsDictOf (PySem.strKind MProg w) oD []
  lo1 : (opts == sysModules) = false
  lo2 : (dflt == sysModules) = false
theorem v_expand_some (w : World) (e0 : Addr) (oe0 : Obj) (x d op dop vars tup opts dflt D : Addr) (t1 t2 t3 t4 t5 t6 t7 t8 t9 : Tok) (vn : Value) (oO oD o : Obj) (kvs : List (PySem.Str × Value)) (nm : PySem.Str)
   (hO : UvOk w oO oD opts dflt)
   (hd : Obj.IsDictOf (PySem.strKind MProg w) o kvs) (hlo : (D == sysModules) = false)
   (hnm : 0 < nm.length ∧ nm.length ≤ 4) (v : PySem.Str) (tt : Tok) (hv : 0 < v.length ∧ v.length ≤ 4) (hv15 : v ∈ V15) (hl : valueAt kvs nm = some (.str v tt)) :
   Ctr 150 w 262 [.ref x, .ref D] ((D, o) :: (e0, oe0) :: uvLed w nm x d op dop vars tup opts dflt t1 t2 t3 t4 t5 t6 t7 t8 t9 vn oO oD)
     (RPost ((D, o) :: (e0, oe0) :: uvLed w nm x d op dop vars tup opts dflt t1 t2 t3 t4 t5 t6 t7 t8 t9 vn oO oD) fun tl r => ∃ R o' t, r = .ref R ∧ tl = [(R, o')] ∧ (∀ p ∈ ((D, o) :: (e0, oe0) :: uvLed w nm x d op dop vars tup opts dflt t1 t2 t3 t4 t5 t6 t7 t8 t9 vn oO oD), p.1 < R) ∧ (R == sysModules) = false ∧ o'.IsDictOf (PySem.strKind MProg w) [(nm, .str v t)]) := by
  intro mean mg mb dp un gd cn cs a ccd cl outer A₀ base h₀ L m rest s Q E B F X N hne T hk hdp hun hret
  refine wpAny_call ?_
  k_dflt ktr_enter
  clear N hne F
  obtain ⟨ho1, ho2, ho3, ho4⟩ := hO
  rename News _ _ _ _ => N1
  simp only [uvLed] at N1
  k_steps
  rename News _ _ _ rest => hR
  revert hR
  rename News h₀ L _ _ => hN
  intro hR
  rename Obj.IsDictOf _ _ (strPairs _) => hdd
  exact hret _ ([(_, _)] ++ ((D, o) :: (e0, oe0) :: uvLed w nm x d op dop vars tup opts dflt t1 t2 t3 t4 t5 t6 t7 t8 t9 vn oO oD)) _ _ (by k_asm) (news_join hN hR (by lcg_sub)) ⟨_, rfl, _, _, _, rfl, rfl, (by intro p hp; simp only [uvLed, List.mem_cons, List.not_mem_nil, or_false] at hp; rcases hp with rfl | rfl | rfl | rfl | rfl | rfl | rfl | rfl | rfl | rfl <;> (refine ltN ?_; dsimp only; omega)), (by assumption), hdd⟩
theorem v_expand_none (w : World) (e0 : Addr) (oe0 : Obj) (x d op dop vars tup opts dflt D : Addr) (t1 t2 t3 t4 t5 t6 t7 t8 t9 : Tok) (vn : Value) (oO oD o : Obj) (kvs : List (PySem.Str × Value)) (nm : PySem.Str)
   (hO : UvOk w oO oD opts dflt)
   (hd : Obj.IsDictOf (PySem.strKind MProg w) o kvs) (hlo : (D == sysModules) = false)
   (hnm : 0 < nm.length ∧ nm.length ≤ 4) (xx : Option Value) (hxx : xx = none ∨ xx = some .none) (hl : valueAt kvs nm = xx) :
   Ctr 150 w 262 [.ref x, .ref D] ((D, o) :: (e0, oe0) :: uvLed w nm x d op dop vars tup opts dflt t1 t2 t3 t4 t5 t6 t7 t8 t9 vn oO oD)
     (RPost ((D, o) :: (e0, oe0) :: uvLed w nm x d op dop vars tup opts dflt t1 t2 t3 t4 t5 t6 t7 t8 t9 vn oO oD) fun tl r => ∃ R o' t, r = .ref R ∧ tl = [(R, o')] ∧ (∀ p ∈ ((D, o) :: (e0, oe0) :: uvLed w nm x d op dop vars tup opts dflt t1 t2 t3 t4 t5 t6 t7 t8 t9 vn oO oD), p.1 < R) ∧ (R == sysModules) = false ∧ o'.IsDictOf (PySem.strKind MProg w) [(nm, .str (PySem.Str.ofString "") t)]) := by
  rcases hxx with rfl | rfl
  · intro mean mg mb dp un gd cn cs a ccd cl outer A₀ base h₀ L m rest s Q E B F X N hne T hk hdp hun hret
    refine wpAny_call ?_
    k_dflt ktr_enter
    clear N hne F
    obtain ⟨ho1, ho2, ho3, ho4⟩ := hO
    rename News _ _ _ _ => N1
    simp only [uvLed] at N1
    k_steps
    rename News _ _ _ rest => hR
    revert hR
    rename News h₀ L _ _ => hN
    intro hR
    rename Obj.IsDictOf _ _ (strPairs _) => hdd
    exact hret _ ([(_, _)] ++ ((D, o) :: (e0, oe0) :: uvLed w nm x d op dop vars tup opts dflt t1 t2 t3 t4 t5 t6 t7 t8 t9 vn oO oD)) _ _ (by k_asm) (news_join hN hR (by lcg_sub)) ⟨_, rfl, _, _, _, rfl, rfl, (by intro p hp; simp only [uvLed, List.mem_cons, List.not_mem_nil, or_false] at hp; rcases hp with rfl | rfl | rfl | rfl | rfl | rfl | rfl | rfl | rfl | rfl <;> (refine ltN ?_; dsimp only; omega)), (by assumption), hdd⟩
  · intro mean mg mb dp un gd cn cs a ccd cl outer A₀ base h₀ L m rest s Q E B F X N hne T hk hdp hun hret
    refine wpAny_call ?_
    k_dflt ktr_enter
    clear N hne F
    obtain ⟨ho1, ho2, ho3, ho4⟩ := hO
    rename News _ _ _ _ => N1
    simp only [uvLed] at N1
    k_steps
    rename News _ _ _ rest => hR
    revert hR
    rename News h₀ L _ _ => hN
    intro hR
    rename Obj.IsDictOf _ _ (strPairs _) => hdd
    exact hret _ ([(_, _)] ++ ((D, o) :: (e0, oe0) :: uvLed w nm x d op dop vars tup opts dflt t1 t2 t3 t4 t5 t6 t7 t8 t9 vn oO oD)) _ _ (by k_asm) (news_join hN hR (by lcg_sub)) ⟨_, rfl, _, _, _, rfl, rfl, (by intro p hp; simp only [uvLed, List.mem_cons, List.not_mem_nil, or_false] at hp; rcases hp with rfl | rfl | rfl | rfl | rfl | rfl | rfl | rfl | rfl | rfl <;> (refine ltN ?_; dsimp only; omega)), (by assumption), hdd⟩
theorem v15_lens : ∀ v ∈ V15, 0 < v.length ∧ v.length ≤ 4 := by decide +kernel
/-- what a dict of the law's tells for a name -/
def due (kvs : List (PySem.Str × Value)) (nm : PySem.Str) : PySem.Str := match valueAt kvs nm with
  | some (.str v _) => v
  | _ => PySem.Str.ofString ""
def GoodD (kvs : List (PySem.Str × Value)) : Prop := ∀ nm v, valueAt kvs nm = some v → v = .none ∨ ∃ z t, v = .str z t ∧ z ∈ V15
variable {w : World} {led : Led} {mean : ExcName → Option Value} {mg mb : PySem.Str → Option Value} {dp un : Nat} {gd : Option (List Code)} {cn : PySem.Str} {cs : Scope} {a : Addr} {ccd : Value} {cl : List (PySem.Str × Addr)} {outer : List Env} {A₀ : Around} {base h₀ : Heap} {L : Addr} {m : PySem.Str → Option Value} {s : Shared} {Q E : Value → Shared → Prop}
theorem v_expand_use {e0 : Addr} {oe0 : Obj} {x d op dop vars tup opts dflt D : Addr} {t1 t2 t3 t4 t5 t6 t7 t8 t9 : Tok} {vn : Value} {oO oD o : Obj} {kvs : List (PySem.Str × Value)} {nm : PySem.Str}
   (hO : UvOk w oO oD opts dflt) (hd : Obj.IsDictOf (PySem.strKind MProg w) o kvs) (hlo : (D == sysModules) = false) (hnm : 0 < nm.length ∧ nm.length ≤ 4) (hg : GoodD kvs) (B : Below A₀ base outer h₀) (F : Fr h₀ L s.heap m) (X : (Mine.KF w.params).In h₀) (N : News h₀ L s.heap led) (T : Top Mine.vw LS mean mg mb h₀) (hk : cs.kind = .function) (hdp : dp + 150 < recursionLimit) (hun : un + 10 * 150 < cLine)
   (hsub : ∀ p ∈ ((D, o) :: (e0, oe0) :: uvLed w nm x d op dop vars tup opts dflt t1 t2 t3 t4 t5 t6 t7 t8 t9 vn oO oD), p ∈ led)
   (hret : ∀ R o' t h' tk', Fr h₀ L h' m → News h₀ L h' ((R, o') :: led) → (∀ p ∈ ((D, o) :: (e0, oe0) :: uvLed w nm x d op dop vars tup opts dflt t1 t2 t3 t4 t5 t6 t7 t8 t9 vn oO oD), p.1 < R) → (R == sysModules) = false → o'.IsDictOf (PySem.strKind MProg w) [(nm, .str (due kvs nm) t)] → Q (.ref R) { s with heap := h', toks := tk' }) :
   wpAny (model MProg w) (ktrTop dp un gd cn cs L a ccd cl outer) (call (.ref 262) [.ref x, .ref D]) Q E s := by
  cases hv : valueAt kvs nm with
  | none =>
    refine Ctr.useR (v_expand_none w e0 oe0 x d op dop vars tup opts dflt D t1 t2 t3 t4 t5 t6 t7 t8 t9 vn oO oD o kvs nm hO hd hlo hnm _ (.inl rfl) hv) B F X N T hk hsub hdp hun ?_
    rintro r tl h' tk' F' N' ⟨R, o', t, rfl, rfl, hlt, hlo', hd'⟩
    exact hret R o' t h' tk' F' N' hlt hlo' (by unfold due; rw [hv]; exact hd')
  | some y =>
    rcases hg nm y hv with rfl | ⟨z, tt, rfl, hz⟩
    · refine Ctr.useR (v_expand_none w e0 oe0 x d op dop vars tup opts dflt D t1 t2 t3 t4 t5 t6 t7 t8 t9 vn oO oD o kvs nm hO hd hlo hnm _ (.inr rfl) hv) B F X N T hk hsub hdp hun ?_
      rintro r tl h' tk' F' N' ⟨R, o', t, rfl, rfl, hlt, hlo', hd'⟩
      exact hret R o' t h' tk' F' N' hlt hlo' (by unfold due; rw [hv]; exact hd')
    · refine Ctr.useR (v_expand_some w e0 oe0 x d op dop vars tup opts dflt D t1 t2 t3 t4 t5 t6 t7 t8 t9 vn oO oD o kvs nm hO hd hlo hnm z tt (v15_lens z hz) hz hv) B F X N T hk hsub hdp hun ?_
      rintro r tl h' tk' F' N' ⟨R, o', t, rfl, rfl, hlt, hlo', hd'⟩
      exact hret R o' t h' tk' F' N' hlt hlo' (by unfold due; rw [hv]; exact hd')
end
end

section
open PySem PySem.W PyProof.Rows PySem.Spec PySem.Calls
section
/-- what the call of a class does, all of whose new objects but one list stand above d -/
def CtrA (n : Nat) (w : World) (f : Addr) (vs : List Value) (P : Addr → Led → Value → Prop) : Prop :=
  ∀ (mean : ExcName → Option Value) (mg mb : PySem.Str → Option Value) (dp un : Nat) (gd : Option (List Code)) (cn : PySem.Str) (cs : Scope) (a : Addr) (ccd : Value) (cl : List (PySem.Str × Addr)) (outer : List Env) (A₀ : Around) (base h₀ : Heap) (L : Addr) (m : PySem.Str → Option Value) (rest : Led) (s : Shared) (Q E : Value → Shared → Prop),
    Below A₀ base outer h₀ → Fr h₀ L s.heap m → (Mine.KF w.params).In h₀ → News h₀ L s.heap rest → Top Mine.vw LS mean mg mb h₀ → cs.kind = .function → dp + n < recursionLimit → un + 10 * n < cLine →
    (∀ r d tl h' tk', Fr h₀ L h' m → News h₀ L h' (tl ++ rest) → (∀ p ∈ rest, p.1 < d) → P d tl r → Q r { s with heap := h', toks := tk' }) →
    wpAny (model MProg w) (ktrTop dp un gd cn cs L a ccd cl outer) (call (.ref f) vs) Q E s
/-- a variable that stands on tl -/
def UvPost (w : World) (nm : PySem.Str) (d : Addr) (tl : Led) (r : Value) : Prop := ∃ x op dop vars tup opts dflt vn t1 t2 t3 t4 t5 t6 t7 t8 t9 t10 oO oD, r = .ref x ∧ tl = (vn, LCg.lst [.str nm t10]) :: uvLed w nm x d op dop vars tup opts dflt t1 t2 t3 t4 t5 t6 t7 t8 t9 (.ref vn) oO oD ∧ UvOk w oO oD opts dflt ∧
   (d < x ∧ x < dop ∧ dop < op ∧ op < vars ∧ vars < dflt ∧ dflt < opts ∧ opts < tup)
theorem uv_fin {w : World} {nm : PySem.Str} {h₀ h' : Heap} {L : Addr} {m : PySem.Str → Option Value} {s : Shared} {tk' : Nat} {Q : Value → Shared → Prop} {led rest : Led} {x d op dop vars tup opts dflt : Addr} {t1 t2 t3 t4 t5 t6 t7 t8 t9 t10 : Tok} {vn : Addr} {oO oD : Obj}
   (hret : ∀ r d tl h' tk', Fr h₀ L h' m → News h₀ L h' (tl ++ rest) → (∀ p ∈ rest, p.1 < d) → UvPost w nm d tl r → Q r { s with heap := h', toks := tk' }) (hlow : Hold (∀ p ∈ rest, p.1 < d))
   (F : Fr h₀ L h' m) (N : News h₀ L h' led) (R : News h₀ L h' rest)
   (m1 : (x, instObj 265 d) ∈ led) (m2 : (d, uvDict w nm op vars dflt t3 t4 t5 t6 t7 t8 (.ref vn)) ∈ led) (m3 : (op, instObj 190 dop) ∈ led) (m4 : (dop, dictOf [fld w (PySem.Str.ofString "value") t1 (.str (PySem.Str.ofString "") t2)] 1) ∈ led)
   (m5 : (vars, W.listOf #[.ref tup] 1) ∈ led) (m6 : (tup, ({ cls := .type "tuple", data := .seq #[.str nm t9, .ref opts] } : Obj)) ∈ led) (m9 : (vn, LCg.lst [.str nm t10]) ∈ led) (m7 : (opts, oO) ∈ led) (m8 : (dflt, oD) ∈ led)
   (hO : UvOk w oO oD opts dflt) (hlt : d < x ∧ x < dop ∧ dop < op ∧ op < vars ∧ vars < dflt ∧ dflt < opts ∧ opts < tup) : Q (.ref x) { s with heap := h', toks := tk' } := by
  refine hret _ d ((vn, LCg.lst [.str nm t10]) :: uvLed w nm x d op dop vars tup opts dflt t1 t2 t3 t4 t5 t6 t7 t8 t9 (.ref vn) oO oD) _ _ F (news_join N R ?_) hlow.out ⟨x, op, dop, vars, tup, opts, dflt, vn, _, _, _, _, _, _, _, _, _, _, oO, oD, rfl, rfl, hO, hlt⟩
  intro p hp
  simp only [uvLed, List.mem_cons, List.not_mem_nil, or_false] at hp
  rcases hp with rfl | rfl | rfl | rfl | rfl | rfl | rfl | rfl | rfl <;> assumption
/-- the four names of the law -/
def Names4 : List PySem.Str := [PySem.Str.ofString "a", PySem.Str.ofString "b", PySem.Str.ofString "list", PySem.Str.ofString "x.y"]
theorem names_facts : ∀ nm ∈ Names4, Txt.split nm (PySem.Str.ofString ",") = [nm] ∧ Txt.rstripChars nm (PySem.Str.ofString "*") = nm ∧ (!(Builtin.Str.occurrences nm (PySem.Str.ofString "=") 0 nm.length 1).isEmpty) = false ∧ (!(Builtin.Str.occurrences nm (PySem.Str.ofString ":") 0 nm.length 1).isEmpty) = false ∧ 0 < nm.length ∧ nm.length ≤ 4 := by decide +kernel
theorem names_ends : ∀ nm ∈ Names4, Txt.endswith nm (PySem.Str.ofString "*") = false := by decide +kernel
theorem names_ops : ∀ nm ∈ Names4, (decide (Txt.item nm 0 = ({ cps := #[43] } : PySem.Str)) || (decide (Txt.item nm 0 = ({ cps := #[35] } : PySem.Str)) || (decide (Txt.item nm 0 = ({ cps := #[46] } : PySem.Str)) || (decide (Txt.item nm 0 = ({ cps := #[47] } : PySem.Str)) || (decide (Txt.item nm 0 = ({ cps := #[59] } : PySem.Str)) || (decide (Txt.item nm 0 = ({ cps := #[63] } : PySem.Str)) || (decide (Txt.item nm 0 = ({ cps := #[38] } : PySem.Str)) || (decide (Txt.item nm 0 = ({ cps := #[33] } : PySem.Str)) || (decide (Txt.item nm 0 = ({ cps := #[124] } : PySem.Str)) || (decide (Txt.item nm 0 = ({ cps := #[64] } : PySem.Str)) || (decide (Txt.item nm 0 = ({ cps := #[61] } : PySem.Str)) || (decide (Txt.item nm 0 = ({ cps := #[44] } : PySem.Str)) || false)))))))))))) = false := by decide +kernel
theorem split_one {prog : Program} {w : World} {A : Around} {E : Value → Shared → Prop} {s : Shared} {h₀ : Heap} {L : Addr} {m : PySem.Str → Option Value} {news : Led} {x y : PySem.Str} {t u : Tok} {Q : Value → Shared → Prop} (hF : Fr h₀ L s.heap m) (hN : News h₀ L s.heap news) (hy : (y.length == 0) = false) (e : Txt.split x y = [x]) (hl : x.length ≤ 4)
    (h : ∀ D t' h' k, Fr h₀ L h' m → News h₀ L h' ((D, W.listOf #[.str x t'] 0) :: news) → (∀ p ∈ news, p.1 < D) → Q (.ref D) { s with heap := h', toks := k }) :
    wpAny (model prog w) A (call (.builtin "str.split") [.str x t, .str y u]) Q E s := by
  refine KSpl.split1 hF hN hy (fun D l h' k e1 hs F N l1 => ?_) (by rw [sizeLine_eq]; omega)
  rw [e] at e1
  match l, e1 with
  | [(z, t')], e1 =>
    injection e1 with e1 _
    subst e1
    exact h D t' h' k F N l1
theorem rows5 : True := by
  k_with_none
  k_with "compareOp In str str" => (k_here; first | refine in_strD (b := true) (by decide +kernel) ?_ | refine in_strD (b := false) (by decide +kernel) ?_)
  k_with "exec Assign cons ListComp" => (k_here; (with_reducible show wpAny _ _ (exec (Stmt.Assign [Expr.Attribute _ _ _] _ _) _) _ _ _); with_reducible refine plainObj_wpAny_Assign_Attribute ?_ ?_; rotate_left; with_unfolding_all rfl)
  k_with "exec For Tuple Attribute cons nil" => (k_here; (rename Fr _ _ _ _ => lF'); (with_unfolding_all refine' For_turns lF' ?_; k_whole))
  k_with "call builtin:dict.get" => (k_here; k_dflt (refine kdg_get2 (knd := PySem.strKind _ _) (by k_asm) (by k_mem) (by k_asm) (by assumption) (strKind_is _ _ _ _) _ (by assumption) ?_); (try dsimp only [Option.getD]))
  k_with "truthy str" => (k_here; refine truthy_strT (by omega) ?_)
  k_with "subscriptTail" => (k_here; k_dflt ((with_reducible show wpAny _ _ (subscriptTail _ _ (Value.ref _) (Value.str _ _)) _ _ _); refine kdt_tail (knd := PySem.strKind _ _) (by k_asm) (by k_mem) (by k_asm) ?_))
  k_with "getItem ref str" => (k_here; k_dflt (refine kdt_getItem (knd := PySem.strKind _ _) (by k_asm) (by k_mem) (by k_asm) (strKind_is _ _ _ _) (by first | assumption | rfl) ?_))
  k_with "mem" => (repeat (first | exact List.Mem.head _ | assumption | refine List.Mem.tail _ ?_))
  k_with "sub" => ((try dsimp only [List.cons_append, List.nil_append]); (repeat (refine List.forall_mem_cons.mpr ⟨by walk_at "mem", ?_⟩)); first | (intro p hp; walk_at "mem"; done) | exact fun _ h => (List.not_mem_nil h).elim)
  k_with "compareOp In str str" => (k_here; refine in_strD (b := false) (by assumption) ?_)
  k_with "call builtin:str.rstrip" => (k_here; (refine KXw.rstripChars (by assumption) (by rw [sizeLine_eq]; omega) ?_); intro _ _)
  k_with "call builtin:str.endswith" => (k_here; refine SC.endswith ?_; simp only [names_ends _ (by assumption)])
  k_with "call builtin:str.split" => (k_here; k_dflt (refine split_one (by k_asm) (by k_asm) (by decide) (by assumption) (by assumption) ?_); intro D'q t'q h'q k'q F'q N'q l1q; (try k_lt l1q))
  trivial
theorem uv_init (w : World) (nm : PySem.Str) (hn : nm ∈ Names4) (t9 : Tok) : CtrA 150 w 265 [.str nm t9] (UvPost w nm) := by
  obtain ⟨hsp, hrs, hi1, hi2, hn0, hn4⟩ := names_facts nm hn
  have hops := names_ops nm hn
  intro mean mg mb dp un gd cn cs a ccd cl outer A₀ base h₀ L m rest s Q E B F X N T hk hdp hun hret
  refine call_cls F X N (by k_dflt k_is) (by k_dflt k_is) (by k_dflt k_is) ?_
  intro x d h' F' N' l1 l2
  clear F N
  have N1 : News h₀ L h' ([(x, instObj 265 d), (d, dictOf [] 0)] ++ rest) := N'
  have hne : ∀ q ∈ ([(x, instObj 265 d), (d, dictOf [] 0)] : Led), ∀ p ∈ rest, p.1 ≠ q.1 := by
    intro q hq p hp
    have := l1 p hp
    rcases List.mem_cons.mp hq with rfl | hq
    · exact Nat.ne_of_lt (Nat.lt_trans this l2)
    · rw [List.mem_singleton.mp hq]; exact Nat.ne_of_lt this
  clear N'
  replace l2 := ltN l2
  k_dflt ktr_enter
  have hlow : Hold (∀ p ∈ rest, p.1 < d) := l1
  clear N1 hne F' l1
  k_steps
  rename News _ _ _ rest => hR
  revert hR
  rename News h₀ L _ _ => hN
  intro hR
  rename Obj.IsDictOf _ _ (strPairs _) => hdd
  rename Obj.IsDictOf (PySem.strKind _ _) _ [] => hdz
  refine' uv_fin hret hlow ?f hN hR ?m1 ?m2 ?m3 ?m4 ?m5 ?m6 ?m9 ?m7 ?m8 ?ok ?lt
  case f => k_asm
  case m1 => k_mem
  case m2 => k_mem
  case m3 => k_mem
  case m4 => k_mem
  case m5 => k_mem
  case m6 => k_mem
  case m9 => k_mem
  case m7 => k_mem
  case m8 => k_mem
  case ok => exact ⟨hdd, hdz, by assumption, by assumption⟩
  case lt => (refine ⟨ltN ?_, ltN ?_, ltN ?_, ltN ?_, ltN ?_, ltN ?_, ltN ?_⟩ <;> omega)
end
end

section
open PySem PySem.W PyProof.Rows PySem.Spec PySem.Calls PyProof.V
section
variable {prog : Program} {w : World} {A : Around} {E : Value → Shared → Prop} {s : Shared} {env : Env} {h₀ : Heap} {body : List Stmt} {Q : Flow → Shared → Prop}
/-- the turns over a text's signs, numbered from k -/
def signItms : Nat → List Nat → List Itm
  | _, [] => []
  | k, c :: r => .pairF (fun t => .int (k : Int) t) (PyData.str ⟨#[c]⟩) :: signItms (k + 1) r
theorem signItms_length : ∀ (l : List Nat) (k : Nat), (signItms k l).length = l.length
  | [], _ => rfl
  | _ :: r, k => congrArg (· + 1) (signItms_length r (k + 1))
theorem signItms_get : ∀ (l : List Nat) (k i : Nat) {c : Nat}, l[i]? = some c → (signItms k l)[i]? = some (.pairF (fun t => .int ((k + i : Nat) : Int) t) (PyData.str ⟨#[c]⟩))
  | [], _, i, c, h => by simp at h
  | d :: r, k, 0, c, h => by simp at h; subst h; rfl
  | d :: r, k, i + 1, c, h => by
    have := signItms_get r (k + 1) i (c := c) (by simpa using h)
    show (signItms (k + 1) r)[i]? = _
    rw [this, Nat.add_assoc, Nat.add_comm 1 i]
theorem ktu_enumS {elts : List Expr} {k : Nat} {pos : Pos} {x : PySem.Str} {t : Tok} {m₀ : PySem.Str → Option Value} {news : List (Addr × Obj)}
    (hh : A.handled = none) (F : Fr h₀ env.locals s.heap m₀) (N : News h₀ env.locals s.heap news)
    (rest₀ : ∀ (I : Addr) (ty : String), (∀ p ∈ news, p.1 < I) → ItemsRest prog w A E h₀ env (.Tuple elts k pos) body Q s [(I + 1, "enumerate"), (I, ty)] [] (signItms 0 x.cps.toList) m₀ news) :
    wpAny (model prog w) A (call (.type "enumerate") [.str x t]) (fun xv s₁ => wpAny (model prog w) A (pyIter xv) (fun it s₂ => TurnsAt prog w A h₀ env (.Tuple elts k pos) body Q E it s₂) E s₁) E s := by
  have hLs : env.locals < s.heap.objs.size := F.ns.lt
  refine call_enumerate_str fun h' hE hI hsz hk => ?_
  refine wpAny_pyIter_enum hE ?_
  have main : ∀ (ty : String), strIterType x = ty → ∀ (D : Draws prog w A.in1 s.heap.objs.size [s.heap.objs.size] x.cps.size (fun i v => ∃ c u, x.cps[i]? = some c ∧ v = .str ⟨#[c]⟩ u) (fun i h => h.IsStrIter s.heap.objs.size ty x t i)),
      TurnsAt prog w A h₀ env (.Tuple elts k pos) body Q E (.ref (s.heap.objs.size + 1)) { s with heap := h' } := by
    intro ty hty D
    rw [hty] at hI
    refine ktu_core (tk0 := s.toks) (keep := []) (KTurns.ofWalksU (WalksT.enumerateD D (s.heap.objs.size + 1) (Nat.succ_ne_self _) (fun hm => Nat.succ_ne_self _ (List.mem_singleton.mp hm)) (List.mem_singleton.mpr rfl)).toU) (by rw [signItms_length]; simp) ?_ ?_ ?_ ?_ ?_ ?_ ?_ ?_ (F.keeps hk) (N.grown hk) trivial (rest₀ _ ty fun p hp => Heap.lt_size (N p hp).1)
    · rintro i v h ⟨T, vals, rfl, ⟨t', y, ⟨c, u, hc, rfl⟩, rfl⟩, hT⟩
      refine ⟨_, signItms_get x.cps.toList 0 i (c := c) (by simpa using hc), T, t', _, rfl, .str _ u, ?_⟩
      show IsTup h T #[.int ((0 + i : Nat) : Int) t', _]
      rw [Nat.zero_add]
      exact hT
    · rintro i h ⟨⟨old, he⟩, oi, hoi, hic, _⟩
      have he' : ∃ oe : Obj, h.get? (s.heap.objs.size + 1) = some oe ∧ oe.cls = .type "enumerate" := ⟨_, he, rfl⟩
      obtain ⟨oe, h1, h2⟩ := he'
      refine ⟨[(s.heap.objs.size + 1, oe), (s.heap.objs.size, oi)], ⟨⟨rfl, h2⟩, ⟨rfl, hic⟩, trivial⟩, fun p hp => ?_⟩
      rcases List.mem_cons.mp hp with rfl | hp
      · exact h1
      · rw [List.mem_singleton.mp hp]; exact hoi
    · intro b hb
      have hb' : b = s.heap.objs.size + 1 ∨ b = s.heap.objs.size := by simpa using hb
      rcases hb' with rfl | rfl
      · exact ⟨by simp, ktu_new F (Nat.le_add_right _ _)⟩
      · exact ⟨by simp, ktu_new F (Nat.le_refl _)⟩
    · intro b hb
      simpa using hb
    · intro b hb
      have hb' : b = s.heap.objs.size + 1 ∨ b = s.heap.objs.size := by simpa using hb
      rcases hb' with rfl | rfl
      · exact .inl (by simp)
      · exact .inl (by simp)
    · intro hI'
      have hb' : env.locals = s.heap.objs.size + 1 ∨ env.locals = s.heap.objs.size := by simpa using hI'
      rcases hb' with e | e
      · exact ktu_ne 1 hLs e
      · exact Nat.ne_of_lt hLs e
    · intro p hp hI'
      have hb' : p.1 = s.heap.objs.size + 1 ∨ p.1 = s.heap.objs.size := by simpa using hI'
      have hlp := Heap.lt_size (N p hp).1
      rcases hb' with e | e
      · exact ktu_ne 1 hlp e
      · exact Nat.ne_of_lt hlp e
    · exact ⟨⟨.none, hE⟩, hI⟩
  cases ha : x.cps.all (· < 128)
  · exact main "str_iterator" (by simp [strIterType, ha]) (Draws.strWide (A := A.in1) hh s.heap.objs.size x t)
  · exact main "str_ascii_iterator" (by simp [strIterType, ha]) (Draws.strAscii (A := A.in1) hh s.heap.objs.size x t)
theorem items_ind {target : Expr} {I1 I2 : Addr} {ty1 ty2 : String} (J : List Itm → (PySem.Str → Option Value) → Led → Prop)
   (e0 : ∀ m news, J [] m news → ∀ h tk, Fr h₀ env.locals h m → News h₀ env.locals h news → Q .next { s with heap := h, toks := tk })
   (e1 : ∀ a r m news, J (a :: r) m news → ∀ v h tk, a.Is v h → Fr h₀ env.locals h m → ∀ o1 o2 : Obj, o1.cls = .type ty1 → o2.cls = .type ty2 → News h₀ env.locals h ((I1, o1) :: (I2, o2) :: news) →
      wpAny (model prog w) A (assign target env v) (fun _ s₂ => wpAny (model prog w) A (execs body env) (UnrPostW h₀ env.locals { s with heap := h, toks := tk } [(I1, o1), (I2, o2)] (J r) Q) E s₂) E { s with heap := h, toks := tk }) :
   ∀ l m news, J l m news → ItemsRest prog w A E h₀ env target body Q s [(I1, ty1), (I2, ty2)] [] l m news
  | [], m, news, j => fun h tk F N => e0 m news j h tk F N
  | a :: r, m, news, j => by
    intro v h tk ha F o1 c1 o2 c2 N
    refine wpAny_mono (e1 a r m news j v h tk ha F o1 o2 c1 c2 N) (fun _ s₂ h₂ => wpAny_mono h₂ (fun f s₃ p => ?_) fun _ _ e => e) fun _ _ e => e
    cases f with
    | ret v => exact p
    | brk => exact p
    | next => obtain ⟨h', tk', m', n', a, b, c', d, e⟩ := p; exact ⟨h', tk', m', n', a, b, c', d, trivial, items_ind J e0 e1 r m' n' e⟩
    | cont => obtain ⟨h', tk', m', n', a, b, c', d, e⟩ := p; exact ⟨h', tk', m', n', a, b, c', d, trivial, items_ind J e0 e1 r m' n' e⟩
end
end

section
open PySem PySem.W PyProof.Rows PySem.Spec PySem.Calls PyProof.V
section
theorem rows6 : True := by
  k_with_none
  k_with "compareOp In str str" => (k_here; first | refine in_strD (b := true) (by decide +kernel) ?_ | refine in_strD (b := false) (by decide +kernel) ?_)
  k_with "exec Assign cons ListComp" => (k_here; (with_reducible show wpAny _ _ (exec (Stmt.Assign [Expr.Attribute _ _ _] _ _) _) _ _ _); with_reducible refine plainObj_wpAny_Assign_Attribute ?_ ?_; rotate_left; with_unfolding_all rfl)
  k_with "exec For Tuple Attribute cons nil" => (k_here; (rename Fr _ _ _ _ => lF'); (with_unfolding_all refine' For_turns lF' ?_; k_whole))
  k_with "call builtin:dict.get" => (k_here; k_dflt (refine kdg_get2 (knd := PySem.strKind _ _) (by k_asm) (by k_mem) (by k_asm) (by assumption) (strKind_is _ _ _ _) _ (by assumption) ?_); (try dsimp only [Option.getD]))
  k_with "truthy str" => (k_here; refine truthy_strT (by omega) ?_)
  k_with "subscriptTail" => (k_here; k_dflt ((with_reducible show wpAny _ _ (subscriptTail _ _ (Value.ref _) (Value.str _ _)) _ _ _); refine kdt_tail (knd := PySem.strKind _ _) (by k_asm) (by k_mem) (by k_asm) ?_))
  k_with "getItem ref str" => (k_here; k_dflt (refine kdt_getItem (knd := PySem.strKind _ _) (by k_asm) (by k_mem) (by k_asm) (strKind_is _ _ _ _) (by first | assumption | rfl) ?_))
  k_with "mem" => (repeat (first | exact List.Mem.head _ | assumption | refine List.Mem.tail _ ?_))
  k_with "sub" => ((try dsimp only [List.cons_append, List.nil_append]); (repeat (refine List.forall_mem_cons.mpr ⟨by walk_at "mem", ?_⟩)); first | (intro p hp; walk_at "mem"; done) | exact fun _ h => (List.not_mem_nil h).elim)
  k_with "exec For Tuple Call cons nil" => (k_here; (rename Fr _ _ _ _ => lF'q); (with_unfolding_all refine' For_turns lF'q ?_; k_whole))
  k_with "call type:enumerate" => (k_here; (rename Fr _ _ _ _ => lF'q); (rename News _ _ _ _ => lN'q); (with_unfolding_all refine ktu_enumS (by rfl) lF'q lN'q ?_); clear lF'q lN'q)
  trivial
local macro_rules | `(tactic| k_all) => `(tactic| with_reducible assumption)
theorem rows7 : True := by
  k_with "call builtin:list.append" => (k_here; (with_reducible show wpAny _ _ (call (Value.builtin _) [Value.ref _, _]) _ _ _); k_dflt (refine append_K (by k_asm) (by k_asm) (by k_upd) ?_ (by (rw [sizeLine_eq]; simp only [List.size_toArray, List.length_cons] at *; omega)); k_whole); intro h'q F'q N'q; (try k_sweep))
  trivial
/-- one sign more: what the scan keeps -/
def exStep (u : PySem.Str) (st : Option Int × List (Int × Int × PySem.Str)) (i : Int) (c : Nat) : Option Int × List (Int × Int × PySem.Str) := match st.1 with
  | none => (if c = 123 then some i else none, st.2)
  | some j => if c = 125 then (none, if j + 1 < i then st.2 ++ [(j, i + 1, Txt.slice u (some (j + 1)) (some i))] else st.2) else st
def exScan (u : PySem.Str) : Nat → List Nat → Option Int × List (Int × Int × PySem.Str) → Option Int × List (Int × Int × PySem.Str)
  | _, [], st => st
  | k, c :: r, st => exScan u (k + 1) r (exStep u st k c)
/-- the tuples that were found, newest first, and their refs -/
inductive Tps : List Value → List (Int × Int × PySem.Str) → Led → Prop
  | nil : Tps [] [] []
  | snoc {vs fs ts} (T : Addr) (a b : Int) (z : PySem.Str) (t1 t2 t3 : Tok) : Tps vs fs ts → Tps (vs ++ [.ref T]) (fs ++ [(a, b, z)]) ((T, { cls := .type "tuple", data := .seq #[.int a t1, .int b t2, .str z t3] }) :: ts)
theorem Tps.len {vs fs ts} (h : Tps vs fs ts) : vs.length = fs.length := by
  induction h with
  | nil => rfl
  | snoc _ _ _ _ _ _ _ _ ih => simp [ih]
theorem sign_eq {c d : Nat} : ((⟨#[c]⟩ : PySem.Str) == ⟨#[d]⟩) = decide (c = d) := by
  by_cases h : c = d
  · subst h; simp
  · rw [decide_eq_false h, beq_eq_false_iff_ne]
    intro e
    injection e with e
    simp at e
    exact h e
theorem open_eq {c : Nat} : ((⟨#[c]⟩ : PySem.Str) == PySem.Str.ofString "{") = decide (c = 123) := sign_eq
theorem close_eq {c : Nat} : ((⟨#[c]⟩ : PySem.Str) == PySem.Str.ofString "}") = decide (c = 125) := sign_eq
def stVal (o : Option Int) (v : Value) : Prop := match o with
  | none => v = .none
  | some j => ∃ t, v = .int j t
theorem news_perm {g h : Heap} {L D l : Addr} {tup : Obj} {a b : Addr × Obj} {vs : List Value} {v : Value} {ts : Led} (N : News g L h ((D, tup) :: a :: b :: (l, W.listOf (vs.toArray.push v) (vs.length + 1)) :: ts)) : News g L h ([a, b] ++ ((l, W.listOf (vs ++ [v]).toArray (vs ++ [v]).length) :: (D, tup) :: ts)) := by
  rw [listOf_snoc] at N
  intro p hp
  apply N
  simp only [List.cons_append, List.nil_append, List.mem_cons] at hp ⊢
  rcases hp with h | h | h | h | h
  · exact .inr (.inl h)
  · exact .inr (.inr (.inl h))
  · exact .inr (.inr (.inr (.inl h)))
  · exact .inl h
  · exact .inr (.inr (.inr (.inr h)))
theorem exprs (w : World) (t1 : Tok) (u : PySem.Str) (hu : u.length ≤ 1000) : Ctr 60 w 325 [.str u t1] [] (RPost [] fun tl r => ∃ l vs ts, r = .ref l ∧ tl = (l, W.listOf vs.toArray vs.length) :: ts ∧ Tps vs (exScan u 0 u.cps.toList (none, [])).2 ts ∧ ∀ p ∈ ts, l < p.1) := by
  intro mean mg mb dp un gd cn cs a ccd cl outer A₀ base h₀ L m rest s Q E B F X N hne T hk hdp hun hret
  refine wpAny_call ?_
  k_dflt ktr_enter
  clear N hne F
  k_steps
  rename_i l' _ _ _ _ I ty l1
  have hI := ltN (l1 _ (List.Mem.head _))
  dsimp only at hI
  refine items_ind (fun l m news => ∃ k rst st vs ts sv, l = signItms k rst ∧ exScan u 0 u.cps.toList (none, []) = exScan u k rst st ∧ k + rst.length = u.length ∧ (∀ j, st.1 = some j → 0 ≤ j ∧ j < (k : Int)) ∧ st.2.length ≤ k ∧
      m (PySem.Str.ofString "start") = some sv ∧ stVal st.1 sv ∧ m (PySem.Str.ofString "found") = some (.ref l') ∧ m (PySem.Str.ofString "uri") = some (.str u t1) ∧ Tps vs st.2 ts ∧ (∀ p ∈ ts, l' < p.1 ∧ I + 1 < p.1) ∧ news = (l', W.listOf vs.toArray vs.length) :: ts) ?_ ?_ _ _ _ ?_
  · rintro m news ⟨k, rst, st, vs, ts, sv, hl, hsc, hk1, hj, hlen, hm1, hsv, hm2, hm3, hts, hlt, rfl⟩ h tk F' N'
    cases rst with
    | cons c rst => cases hl
    | nil =>
    rw [mput_self hm2] at F'
    k_steps
    rename News _ _ _ rest => hR
    revert hR
    rename News h₀ L _ _ => hN
    intro hR
    have hsc' : (exScan u 0 u.cps.toList (none, [])).2 = st.2 := by rw [hsc]; rfl
    refine hret _ (((l', W.listOf vs.toArray vs.length) :: ts) ++ []) _ _ (by k_asm) (news_join hN hR ?_) ⟨_, rfl, l', vs, ts, rfl, rfl, by rw [hsc']; exact hts, fun p hp => (hlt p hp).1⟩
    intro p hp
    rw [List.append_nil] at hp
    exact hp
  · rintro a r m news ⟨k, rst, st, vs, ts, sv, hl, hsc, hk1, hj, hlen, hm1, hsv, hm2, hm3, hts, hlt, rfl⟩ v h tk ha F' o1 o2 c1 c2 N'
    cases rst with
    | nil => cases hl
    | cons c rst =>
    obtain ⟨rfl, rfl⟩ := List.cons.inj hl
    obtain ⟨T, t2, y, rfl, hy, hT⟩ := ha
    obtain ⟨ty4, rfl⟩ := PyProof.V.Flat.str_inv hy
    rw [mput_self hm1, mput_self hm2, mput_self hm3] at F'
    have hvl := hts.len
    have hne : ∀ p ∈ ts, p.1 ≠ l' := fun p hp => Nat.ne_of_gt (hlt p hp).1
    have hoff : ∀ (its : Obj) (ts' : Led), (∀ p ∈ ts', I + 1 < p.1) → ∀ p ∈ (l', its) :: ts', ∀ q ∈ [(I + 1, o1), (I, o2)], p.1 ≠ q.1 := by
      intro its ts' hl' p hp q hq
      have hq' : q.1 = I + 1 ∨ q.1 = I := by
        rcases List.mem_cons.mp hq with rfl | hq
        · exact .inl rfl
        · rw [List.mem_singleton.mp hq]; exact .inr rfl
      rcases List.mem_cons.mp hp with rfl | hp
      · show l' ≠ q.1
        refine neN ?_
        rcases hq' with e | e <;> rw [e] <;> omega
      · have := ltN (hl' p hp)
        refine neN ?_
        rcases hq' with e | e <;> rw [e] <;> omega
    have hkl : k + 1 + rst.length = u.length := by simp only [List.length_cons] at hk1; omega
    cases hst : st.1 with
    | none =>
      rw [hst] at hsv
      have hsv : sv = .none := hsv
      subst hsv
      have hs : exStep u st k c = (if c = 123 then some (k : Int) else none, st.2) := by unfold exStep; rw [hst]
      k_steps
      · rename _ = true => hc
        rw [open_eq, decide_eq_true_eq] at hc
        rw [if_pos hc] at hs
        refine ⟨_, _, _, (l', W.listOf vs.toArray vs.length) :: ts, rfl, (by k_asm), (by k_asm), hoff _ _ (fun p hp => (hlt p hp).2), k + 1, rst, exStep u st k c, vs, ts, _, rfl, hsc, hkl, ?_, ?_, rfl, ?_, rfl, rfl, ?_, hlt, rfl⟩
        · rw [hs]; intro j hj; cases hj; exact ⟨by omega, by omega⟩
        · rw [hs]; exact Nat.le_succ_of_le hlen
        · rw [hs]; exact ⟨_, rfl⟩
        · rw [hs]; exact hts
      · rename _ = false => hc
        rw [open_eq, decide_eq_false_iff_not] at hc
        rw [if_neg hc] at hs
        refine ⟨_, _, _, (l', W.listOf vs.toArray vs.length) :: ts, rfl, (by k_asm), (by k_asm), hoff _ _ (fun p hp => (hlt p hp).2), k + 1, rst, exStep u st k c, vs, ts, _, rfl, hsc, hkl, ?_, ?_, rfl, ?_, rfl, rfl, ?_, hlt, rfl⟩
        · rw [hs]; intro j hj; cases hj
        · rw [hs]; exact Nat.le_succ_of_le hlen
        · rw [hs]; rfl
        · rw [hs]; exact hts
    | some j =>
      rw [hst] at hsv
      obtain ⟨t3, rfl⟩ := hsv
      have hjj := hj j hst
      have hs : exStep u st k c = if c = 125 then (none, if j + 1 < (k : Int) then st.2 ++ [(j, (k : Int) + 1, Txt.slice u (some (j + 1)) (some (k : Int)))] else st.2) else st := by unfold exStep; rw [hst]
      k_steps
      · rename _ = true => hc
        rw [close_eq, decide_eq_true_eq] at hc
        rename j + 1 < (k : Int) => hc2
        rw [if_pos hc, if_pos hc2] at hs
        rename News _ _ _ _ => hNN
        rename I + 1 < _ ∧ _ => hDl
        have hDlt : I + 1 < _ ∧ l' < _ := ⟨hDl.1, hDl.2.2.1⟩
        refine ⟨_, _, _, _, rfl, (by k_asm), news_perm hNN, hoff _ _ ?_, k + 1, rst, exStep u st k c, _, _, _, rfl, hsc, hkl, ?_, ?_, rfl, ?_, rfl, rfl, (by rw [hs]; exact Tps.snoc _ _ _ _ _ _ _ hts), ?_, rfl⟩
        · intro p hp
          rcases List.mem_cons.mp hp with rfl | hp
          · exact hDlt.1
          · exact (hlt p hp).2
        · rw [hs]; intro j hj; cases hj
        · rw [hs]; simp only [List.length_append, List.length_cons, List.length_nil]; omega
        · rw [hs]; rfl
        · intro p hp
          rcases List.mem_cons.mp hp with rfl | hp
          · exact ⟨hDlt.2, hDlt.1⟩
          · exact hlt p hp
      · rename _ = true => hc
        rw [close_eq, decide_eq_true_eq] at hc
        rename ¬ (j + 1 < (k : Int)) => hc2
        rw [if_pos hc, if_neg hc2] at hs
        refine ⟨_, _, _, (l', W.listOf vs.toArray vs.length) :: ts, rfl, (by k_asm), (by k_asm), hoff _ _ (fun p hp => (hlt p hp).2), k + 1, rst, exStep u st k c, vs, ts, _, rfl, hsc, hkl, ?_, ?_, rfl, ?_, rfl, rfl, ?_, hlt, rfl⟩
        · rw [hs]; intro j hj; cases hj
        · rw [hs]; exact Nat.le_succ_of_le hlen
        · rw [hs]; rfl
        · rw [hs]; exact hts
      · rename _ = false => hc
        rw [close_eq, decide_eq_false_iff_not] at hc
        rw [if_neg hc] at hs
        refine ⟨_, _, _, (l', W.listOf vs.toArray vs.length) :: ts, rfl, (by k_asm), (by k_asm), hoff _ _ (fun p hp => (hlt p hp).2), k + 1, rst, exStep u st k c, vs, ts, _, rfl, hsc, hkl, ?_, ?_, rfl, ?_, rfl, rfl, ?_, hlt, rfl⟩
        · rw [hs, hst]; intro j' hj'; cases hj'; exact ⟨hjj.1, by omega⟩
        · rw [hs]; exact Nat.le_succ_of_le hlen
        · rw [hs, hst]; exact ⟨_, rfl⟩
        · rw [hs]; exact hts
  · refine ⟨0, u.cps.toList, (none, []), [], [], .none, rfl, rfl, ?_, ?_, Nat.le_refl _, rfl, rfl, rfl, rfl, .nil, fun p hp => (nomatch hp), rfl⟩
    · show 0 + u.cps.toList.length = u.cps.size
      simp
    · intro j hj; cases hj
end
end

section
open PySem PySem.W PyProof.Rows PySem.Spec PySem.Calls PyProof.V
section
theorem rows8 : True := by
  k_with_none
  k_with "compareOp In str str" => (k_here; first | refine in_strD (b := true) (by decide +kernel) ?_ | refine in_strD (b := false) (by decide +kernel) ?_)
  k_with "exec Assign cons ListComp" => (k_here; (with_reducible show wpAny _ _ (exec (Stmt.Assign [Expr.Attribute _ _ _] _ _) _) _ _ _); with_reducible refine plainObj_wpAny_Assign_Attribute ?_ ?_; rotate_left; with_unfolding_all rfl)
  k_with "exec For Tuple Attribute cons nil" => (k_here; (rename Fr _ _ _ _ => lF'); (with_unfolding_all refine' For_turns lF' ?_; k_whole))
  k_with "call builtin:dict.get" => (k_here; k_dflt (refine kdg_get2 (knd := PySem.strKind _ _) (by k_asm) (by k_mem) (by k_asm) (by assumption) (strKind_is _ _ _ _) _ (by assumption) ?_); (try dsimp only [Option.getD]))
  k_with "truthy str" => (k_here; refine truthy_strT (by omega) ?_)
  k_with "subscriptTail" => (k_here; k_dflt ((with_reducible show wpAny _ _ (subscriptTail _ _ (Value.ref _) (Value.str _ _)) _ _ _); refine kdt_tail (knd := PySem.strKind _ _) (by k_asm) (by k_mem) (by k_asm) ?_))
  k_with "getItem ref str" => (k_here; k_dflt (refine kdt_getItem (knd := PySem.strKind _ _) (by k_asm) (by k_mem) (by k_asm) (strKind_is _ _ _ _) (by first | assumption | rfl) ?_))
  k_with "mem" => (repeat (first | exact List.Mem.head _ | assumption | refine List.Mem.tail _ ?_))
  k_with "sub" => ((try dsimp only [List.cons_append, List.nil_append]); (repeat (refine List.forall_mem_cons.mpr ⟨by walk_at "mem", ?_⟩)); first | (intro p hp; walk_at "mem"; done) | exact fun _ h => (List.not_mem_nil h).elim)
  k_with "truthy ref" => (k_here; k_dflt (refine dx_truthy (knd := PySem.strKind _ _) (by k_asm) (by k_mem) (by k_asm) (by assumption) (by omega) ?_))
  trivial
local macro_rules | `(tactic| walk_at "getMethod ref") => `(tactic| (k_here; k_dflt (first
  | (with_reducible show wpAny _ _ (getMethod _ (PySem.Str.ofString "copy") _) _ _ _); refine dx_method (knd := PySem.strKind _ _) PySem.F.slot_dict_copy PySem.F.type_dict_copy (by k_asm) (by k_mem) (by k_asm) ?_
  | (with_reducible show wpAny _ _ (getMethod _ (PySem.Str.ofString "update") _) _ _ _); refine dx_method (knd := PySem.strKind _ _) PySem.F.slot_dict_update PySem.F.type_dict_update (by k_asm) (by k_mem) (by k_asm) ?_)))
theorem rows9 : True := by
  k_with "call builtin:dict.copy" => (k_here; k_dflt (refine dx_copy (knd := PySem.strKind _ _) (by k_asm) (by k_asm) (by k_mem) (by k_asm) (by assumption) (by omega) (by exact Top.nolimit (by k_asm)) ?_); intro d'q h'q o'q F'q N'q l1q lo'q hd'q; (try k_lt l1q))
  k_with "call builtin:dict.update" => (k_here; k_dflt (refine dx_update (knd := PySem.strKind _ _) (by k_asm) (by k_asm) (by k_updF) (by k_asm) (by k_mem) (by k_asm) (by k_ne) (by assumption) (by omega) ?_); intro h'q o'q F'q N'q hd'q; (try dsimp only at N'q))
  trivial
/-- a fresh pair of dicts, the second laid over the first -/
def Over (kvs1 kvs2 kvs : List (PySem.Str × Value)) : Prop := (∀ nm, valueAt kvs nm = (valueAt kvs2 nm).or (valueAt kvs1 nm)) ∧ kvs.length ≤ kvs1.length + kvs2.length
/-- what a merge hands back -/
def MrgPost (w : World) (kvs1 kvs2 : List (PySem.Str × Value)) (tl : Led) (r : Value) : Prop := ∃ d o kvs, r = .ref d ∧ tl = [(d, o)] ∧ o.IsDictOf (PySem.strKind MProg w) kvs ∧ (d == sysModules) = false ∧ Over kvs1 kvs2 kvs
theorem merge_none (w : World) (d2 : Addr) (o2 : Obj) (kvs2 : List (PySem.Str × Value)) (hd2 : o2.IsDictOf (PySem.strKind MProg w) kvs2) (lo2 : (d2 == sysModules) = false) : Ctr 60 w 332 [.none, .ref d2] [(d2, o2)] (RPost [(d2, o2)] (MrgPost w [] kvs2)) := by
  intro mean mg mb dp un gd cn cs a ccd cl outer A₀ base h₀ L m rest s Q E B F X N hne T hk hdp hun hret
  refine wpAny_call ?_
  k_dflt ktr_enter
  clear N hne F
  k_steps
  rename News _ _ _ rest => hR
  revert hR
  rename News h₀ L _ _ => hN
  intro hR
  refine hret _ ([(d2, o2)] ++ [(d2, o2)]) _ _ (by k_asm) (news_join hN hR ?_) ⟨_, rfl, d2, o2, kvs2, rfl, rfl, hd2, lo2, fun nm => by cases valueAt kvs2 nm <;> rfl, by simp⟩
  lcg_sub
theorem merge_d (w : World) (d1 d2 : Addr) (o1 o2 : Obj) (kvs1 kvs2 : List (PySem.Str × Value)) (hne : d1 ≠ d2) (hd1 : o1.IsDictOf (PySem.strKind MProg w) kvs1) (lo1 : (d1 == sysModules) = false) (hd2 : o2.IsDictOf (PySem.strKind MProg w) kvs2) (lo2 : (d2 == sysModules) = false)
   (hl1 : kvs1.length ≤ 100) (hl2 : kvs2.length ≤ 100) : Ctr 60 w 332 [.ref d1, .ref d2] [(d1, o1), (d2, o2)] (RPost [(d1, o1), (d2, o2)] (MrgPost w kvs1 kvs2)) := by
  intro mean mg mb dp un gd cn cs a ccd cl outer A₀ base h₀ L m rest s Q E B F X N hne T hk hdp hun hret
  refine wpAny_call ?_
  k_dflt ktr_enter
  clear N hne F
  k_steps
  · rename _ = true => hemp
    have h1 := List.isEmpty_iff.mp hemp
    subst h1
    rename News _ _ _ rest => hR
    revert hR
    rename News h₀ L _ _ => hN
    intro hR
    refine hret _ ([(d2, o2)] ++ [(d1, o1), (d2, o2)]) _ _ (by k_asm) (news_join hN hR ?_) ⟨_, rfl, d2, o2, kvs2, rfl, rfl, hd2, lo2, fun nm => by cases valueAt kvs2 nm <;> rfl, by simp⟩
    lcg_sub
  · rename Obj.IsDictOf _ _ (merged _ _) => hdd
    rename News _ _ _ rest => hR
    revert hR
    rename News h₀ L _ _ => hN
    intro hR
    have hnd : (kvs2.map (·.1)).Nodup := by obtain ⟨_, _, _, _, _, _, h⟩ := hd2; exact h
    exact hret _ ([(_, _)] ++ [(d1, o1), (d2, o2)]) _ _ (by k_asm) (news_join hN hR (by lcg_sub)) ⟨_, rfl, _, _, _, rfl, rfl, hdd, by assumption, fun nm => valueAt_merged _ _ _ hnd, merged_length_le _ _⟩
variable {w : World} {led : Led} {mean : ExcName → Option Value} {mg mb : PySem.Str → Option Value} {dp un : Nat} {gd : Option (List Code)} {cn : PySem.Str} {cs : Scope} {a : Addr} {ccd : Value} {cl : List (PySem.Str × Addr)} {outer : List Env} {A₀ : Around} {base h₀ : Heap} {L : Addr} {m : PySem.Str → Option Value} {s : Shared} {Q E : Value → Shared → Prop}
theorem merge_none_use {d2 : Addr} {o2 : Obj} {kvs2 : List (PySem.Str × Value)} (hd2 : o2.IsDictOf (PySem.strKind MProg w) kvs2) (lo2 : (d2 == sysModules) = false) (B : Below A₀ base outer h₀) (F : Fr h₀ L s.heap m) (X : (Mine.KF w.params).In h₀) (N : News h₀ L s.heap led) (T : Top Mine.vw LS mean mg mb h₀) (hk : cs.kind = .function) (hdp : dp + 60 < recursionLimit) (hun : un + 10 * 60 < cLine)
   (hsub : ∀ p ∈ [(d2, o2)], p ∈ led)
   (hret : ∀ d o kvs h' tk', Fr h₀ L h' m → News h₀ L h' ((d, o) :: led) → o.IsDictOf (PySem.strKind MProg w) kvs → (d == sysModules) = false → Over [] kvs2 kvs → Q (.ref d) { s with heap := h', toks := tk' }) :
   wpAny (model MProg w) (ktrTop dp un gd cn cs L a ccd cl outer) (call (.ref 332) [.none, .ref d2]) Q E s := by
  refine Ctr.useR (merge_none w d2 o2 kvs2 hd2 lo2) B F X N T hk hsub hdp hun ?_
  rintro r tl h' tk' F' N' ⟨d, o, kvs, rfl, rfl, h1, h2, h3⟩
  exact hret d o kvs h' tk' F' N' h1 h2 h3
theorem merge_d_use {d1 d2 : Addr} {o1 o2 : Obj} {kvs1 kvs2 : List (PySem.Str × Value)} (hne : d1 ≠ d2) (hd1 : o1.IsDictOf (PySem.strKind MProg w) kvs1) (lo1 : (d1 == sysModules) = false) (hd2 : o2.IsDictOf (PySem.strKind MProg w) kvs2) (lo2 : (d2 == sysModules) = false)
   (hl1 : kvs1.length ≤ 100) (hl2 : kvs2.length ≤ 100) (B : Below A₀ base outer h₀) (F : Fr h₀ L s.heap m) (X : (Mine.KF w.params).In h₀) (N : News h₀ L s.heap led) (T : Top Mine.vw LS mean mg mb h₀) (hk : cs.kind = .function) (hdp : dp + 60 < recursionLimit) (hun : un + 10 * 60 < cLine)
   (hsub : ∀ p ∈ [(d1, o1), (d2, o2)], p ∈ led)
   (hret : ∀ d o kvs h' tk', Fr h₀ L h' m → News h₀ L h' ((d, o) :: led) → o.IsDictOf (PySem.strKind MProg w) kvs → (d == sysModules) = false → Over kvs1 kvs2 kvs → Q (.ref d) { s with heap := h', toks := tk' }) :
   wpAny (model MProg w) (ktrTop dp un gd cn cs L a ccd cl outer) (call (.ref 332) [.ref d1, .ref d2]) Q E s := by
  refine Ctr.useR (merge_d w d1 d2 o1 o2 kvs1 kvs2 hne hd1 lo1 hd2 lo2 hl1 hl2) B F X N T hk hsub hdp hun ?_
  rintro r tl h' tk' F' N' ⟨d, o, kvs, rfl, rfl, h1, h2, h3⟩
  exact hret d o kvs h' tk' F' N' h1 h2 h3
end
end

section
open PySem PySem.W PyProof.Rows PySem.Spec PySem.Calls PyProof.V
theorem rows10 : True := by
  k_with_none
  k_with "compareOp In str str" => (k_here; first | refine in_strD (b := true) (by decide +kernel) ?_ | refine in_strD (b := false) (by decide +kernel) ?_)
  k_with "exec Assign cons ListComp" => (k_here; (with_reducible show wpAny _ _ (exec (Stmt.Assign [Expr.Attribute _ _ _] _ _) _) _ _ _); with_reducible refine plainObj_wpAny_Assign_Attribute ?_ ?_; rotate_left; with_unfolding_all rfl)
  k_with "exec For Tuple Attribute cons nil" => (k_here; (rename Fr _ _ _ _ => lF'); (with_unfolding_all refine' For_turns lF' ?_; k_whole))
  k_with "call builtin:dict.get" => (k_here; k_dflt (refine kdg_get2 (knd := PySem.strKind _ _) (by k_asm) (by k_mem) (by k_asm) (by assumption) (strKind_is _ _ _ _) _ (by assumption) ?_); (try dsimp only [Option.getD]))
  k_with "truthy str" => (k_here; refine truthy_strT (by omega) ?_)
  k_with "subscriptTail" => (k_here; k_dflt ((with_reducible show wpAny _ _ (subscriptTail _ _ (Value.ref _) (Value.str _ _)) _ _ _); refine kdt_tail (knd := PySem.strKind _ _) (by k_asm) (by k_mem) (by k_asm) ?_))
  k_with "getItem ref str" => (k_here; k_dflt (refine kdt_getItem (knd := PySem.strKind _ _) (by k_asm) (by k_mem) (by k_asm) (strKind_is _ _ _ _) (by first | assumption | rfl) ?_))
  k_with "mem" => (repeat (first | exact List.Mem.head _ | assumption | refine List.Mem.tail _ ?_))
  k_with "sub" => ((try dsimp only [List.cons_append, List.nil_append]); (repeat (refine List.forall_mem_cons.mpr ⟨by walk_at "mem", ?_⟩)); first | (intro p hp; walk_at "mem"; done) | exact fun _ h => (List.not_mem_nil h).elim)
  trivial
section
/-- the four literals -/
abbrev litObj (t1 t2 t3 t4 : Tok) : Obj := W.listOf #[.str (PySem.Str.ofString "") t1, .str (PySem.Str.ofString "/b-") t2, .str (PySem.Str.ofString "?c=") t3, .str (PySem.Str.ofString "&") t4] 0
theorem lits_fin {h₀ h' : Heap} {L : Addr} {m : PySem.Str → Option Value} {s : Shared} {tk' : Nat} {Q : Value → Shared → Prop} {rest : Led} {l : Addr} {t1 t2 t3 t4 : Tok}
   (hN : News h₀ L h' [(l, litObj t1 t2 t3 t4)]) (hR : News h₀ L h' rest) (F : Fr h₀ L h' m)
   (hret : ∀ r news' h' tk', Fr h₀ L h' m → News h₀ L h' (news' ++ rest) → RPost [] (fun tl r => ∃ l t1 t2 t3 t4, r = .ref l ∧ tl = [(l, litObj t1 t2 t3 t4)]) news' r → Q r { s with heap := h', toks := tk' }) : Q (.ref l) { s with heap := h', toks := tk' } :=
  hret _ ([(l, litObj t1 t2 t3 t4)] ++ []) _ _ F (news_join hN hR fun p hp => by simpa using hp) ⟨_, rfl, l, t1, t2, t3, t4, rfl, rfl⟩
theorem law_lits (w : World) : Ctr 20 w 419 [] [] (RPost [] fun tl r => ∃ l t1 t2 t3 t4, r = .ref l ∧ tl = [(l, litObj t1 t2 t3 t4)]) := by
  intro mean mg mb dp un gd cn cs a ccd cl outer A₀ base h₀ L m rest s Q E B F X N hne T hk hdp hun hret
  refine wpAny_call ?_
  k_dflt ktr_enter
  clear N hne F
  k_steps
  rename News _ _ _ rest => hR
  revert hR
  rename News h₀ L _ _ => hN
  intro hR
  exact lits_fin hN hR (by k_asm) hret
variable {w : World} {led : Led} {mean : ExcName → Option Value} {mg mb : PySem.Str → Option Value} {dp un : Nat} {gd : Option (List Code)} {cn : PySem.Str} {cs : Scope} {a : Addr} {ccd : Value} {cl : List (PySem.Str × Addr)} {outer : List Env} {A₀ : Around} {base h₀ : Heap} {L : Addr} {m : PySem.Str → Option Value} {s : Shared} {Q E : Value → Shared → Prop}
theorem lits_use (B : Below A₀ base outer h₀) (F : Fr h₀ L s.heap m) (X : (Mine.KF w.params).In h₀) (N : News h₀ L s.heap led) (T : Top Mine.vw LS mean mg mb h₀) (hk : cs.kind = .function) (hdp : dp + 20 < recursionLimit) (hun : un + 10 * 20 < cLine)
   (hret : ∀ l t1 t2 t3 t4 h' tk', Fr h₀ L h' m → News h₀ L h' ((l, litObj t1 t2 t3 t4) :: led) → Q (.ref l) { s with heap := h', toks := tk' }) :
   wpAny (model MProg w) (ktrTop dp un gd cn cs L a ccd cl outer) (call (.ref 419) []) Q E s := by
  refine Ctr.useR (law_lits w) B F X N T hk (fun _ h => nomatch h) hdp hun ?_
  rintro r tl h' tk' F' N' ⟨l, t1, t2, t3, t4, rfl, rfl⟩
  exact hret l t1 t2 t3 t4 h' tk' F' N'
end
end

section
open PySem PySem.W PyProof.Rows PySem.Spec PySem.Calls PyProof.V
section
theorem rows11 : True := by
  k_with_none
  k_with "compareOp In str str" => (k_here; first | refine in_strD (b := true) (by decide +kernel) ?_ | refine in_strD (b := false) (by decide +kernel) ?_)
  k_with "exec Assign cons ListComp" => (k_here; (with_reducible show wpAny _ _ (exec (Stmt.Assign [Expr.Attribute _ _ _] _ _) _) _ _ _); with_reducible refine plainObj_wpAny_Assign_Attribute ?_ ?_; rotate_left; with_unfolding_all rfl)
  k_with "exec For Tuple Attribute cons nil" => (k_here; (rename Fr _ _ _ _ => lF'); (with_unfolding_all refine' For_turns lF' ?_; k_whole))
  k_with "call builtin:dict.get" => (k_here; k_dflt (refine kdg_get2 (knd := PySem.strKind _ _) (by k_asm) (by k_mem) (by k_asm) (by assumption) (strKind_is _ _ _ _) _ (by assumption) ?_); (try dsimp only [Option.getD]))
  k_with "truthy str" => (k_here; refine truthy_strT (by omega) ?_)
  k_with "subscriptTail" => (k_here; k_dflt ((with_reducible show wpAny _ _ (subscriptTail _ _ (Value.ref _) (Value.str _ _)) _ _ _); refine kdt_tail (knd := PySem.strKind _ _) (by k_asm) (by k_mem) (by k_asm) ?_))
  k_with "getItem ref str" => (k_here; k_dflt (refine kdt_getItem (knd := PySem.strKind _ _) (by k_asm) (by k_mem) (by k_asm) (strKind_is _ _ _ _) (by first | assumption | rfl) ?_))
  k_with "mem" => (repeat (first | exact List.Mem.head _ | assumption | refine List.Mem.tail _ ?_))
  k_with "sub" => ((try dsimp only [List.cons_append, List.nil_append]); (repeat (refine List.forall_mem_cons.mpr ⟨by walk_at "mem", ?_⟩)); first | (intro p hp; walk_at "mem"; done) | exact fun _ h => (List.not_mem_nil h).elim)
  k_with "exec For Name Name cons nil" => (k_here; (rename Fr _ _ _ _ => lF'q); (with_unfolding_all refine For_invVF lF'q (by exact rfl) (by exact rfl) ?_; k_whole))
  k_with "exec For Name List cons nil" => (k_here; (rename Fr _ _ _ _ => lF'q); (with_unfolding_all refine For_invVF lF'q (by exact rfl) (by exact rfl) ?_; k_whole))
  k_with "pyIter ref" => (k_here; (with_reducible show wpAny _ _ (pyIter (Value.ref _)) (fun it s₂ => LoopAtV _ _ _ _ _ _ _ _ _ it s₂) _ _); (rename Fr _ _ _ _ => lF'q); (rename News _ _ _ _ => lN'q); (with_unfolding_all refine iter_listH (by rfl) lF'q lN'q (by k_mem) (by rfl) (by rfl) ?_); clear lF'q lN'q)
  k_with "subscriptTail" => (k_here; (with_reducible show wpAny _ _ (subscriptTail _ _ (Value.ref _) (Value.int _ _)) _ _ _); k_dflt (refine topList_K (by k_asm) (by k_asm) (by k_is) (by decide) (by decide) (by rfl) ?_; k_whole))
  k_with "compareOp In str ref" => (k_here; k_dflt (refine kda_in (knd := PySem.strKind _ _) (by k_asm) (by k_mem) (by k_asm) (by assumption) (strKind_is _ _ _ _) _ (by assumption) ?_))
  trivial
local macro_rules | `(tactic| k_mem) => `(tactic| assumption)
theorem le0 : (PySem.Str.ofString "").length = 0 := rfl
theorem le1 : (PySem.Str.ofString "/b-").length = 3 := rfl
theorem le2 : (PySem.Str.ofString "?c=").length = 3 := rfl
theorem le3 : (PySem.Str.ofString "&").length = 1 := rfl
theorem le4 : (PySem.Str.ofString "{").length = 1 := rfl
theorem le5 : (PySem.Str.ofString "}").length = 1 := rfl
theorem le6 : (PySem.Str.ofString "a").length = 1 := rfl
theorem le7 : (PySem.Str.ofString "list").length = 4 := rfl
theorem le8 : (PySem.Str.ofString "x.y").length = 3 := rfl
theorem le9 : (PySem.Str.ofString "b").length = 1 := rfl
theorem le10 : (PySem.Str.ofString "/").length = 1 := rfl
theorem add_strB {prog : Program} {w : World} {A : Around} {E : Value → Shared → Prop} {s : Shared} {x y : PySem.Str} {t u : Tok} {Q : Value → Shared → Prop} (hsz : x.length + y.length ≤ 10000) (h : ∀ t' tk, Q (.str (x ++ y) t') { s with toks := tk }) : wpAny (model prog w) A (binaryOp .Add (.str x t) (.str y u)) Q E s := add_str h (by rw [sizeLine_eq]; omega)
theorem rows12 : True := by
  k_with "binaryOp Add str str" => (k_here; k_dflt (refine add_strB (by (simp only [PySem.Str.length_append, le0, le1, le2, le3, le4, le5, le6, le7, le8, le9, le10]; omega)) ?_); intro _ _)
  trivial
def nameS (k : Int) : PySem.Str := if k = 0 then PySem.Str.ofString "a" else if k = 1 then PySem.Str.ofString "b" else if k = 2 then PySem.Str.ofString "list" else PySem.Str.ofString "x.y"
def litS (k : Int) : PySem.Str := if k = 0 then PySem.Str.ofString "" else if k = 1 then PySem.Str.ofString "/b-" else if k = 2 then PySem.Str.ofString "?c=" else PySem.Str.ofString "&"
section
variable {prog : Program} {w : World} {A : Around} {E : Value → Shared → Prop} {s : Shared} {h₀ : Heap} {L l : Addr} {t1 t2 t3 t4 u : Tok} {led : Led} {value slice : PySem.Expr} {Q : Value → Shared → Prop} {k : Int}
/-- an item of the table of names, at a letter -/
theorem name_item {vs : List Value} (hk : k = 0 ∨ k = 1 ∨ k = 2 ∨ k = 3) (hl : s.heap.IsList l vs.toArray) (hw : StrsAre vs [PySem.Str.ofString "a", PySem.Str.ofString "b", PySem.Str.ofString "list", PySem.Str.ofString "x.y"])
    (h : ∀ t', Q (.str (nameS k) t') s) (hs : subscripted slice false (.ref l) (.int k u) = operate [.ref l, .int k u] (getItem (.ref l) (.int k u))) :
    wpAny (model prog w) A (subscriptTail value slice (.ref l) (.int k u)) Q E s := by
  have e : [PySem.Str.ofString "a", PySem.Str.ofString "b", PySem.Str.ofString "list", PySem.Str.ofString "x.y"].getD k.toNat PySem.Str.empty = nameS k := by rcases hk with rfl | rfl | rfl | rfl <;> rfl
  exact KTb.item_list hl hw (by omega) (by show k < 4; omega) (by omega) (fun t' _ => by rw [e]; exact h t') hs
/-- an item of the four literals, at a letter; the list is let go -/
theorem lit_itemS (hk : k = 0 ∨ k = 1 ∨ k = 2 ∨ k = 3) (N : News h₀ L s.heap ((l, litObj t1 t2 t3 t4) :: led)) (h : ∀ t', News h₀ L s.heap led → Q (.str (litS k) t') s)
    (hs : subscripted slice false (.ref l) (.int k u) = operate [.ref l, .int k u] (getItem (.ref l) (.int k u))) :
    wpAny (model prog w) A (subscriptTail value slice (.ref l) (.int k u)) Q E s := by
  have e : [PySem.Str.ofString "", PySem.Str.ofString "/b-", PySem.Str.ofString "?c=", PySem.Str.ofString "&"].getD k.toNat PySem.Str.empty = litS k := by rcases hk with rfl | rfl | rfl | rfl <;> rfl
  exact KTb.item_list (ws := [PySem.Str.ofString "", PySem.Str.ofString "/b-", PySem.Str.ofString "?c=", PySem.Str.ofString "&"]) (News.isList N (.head _)) (by repeat constructor) (by omega) (by show k < 4; omega) (by omega) (fun t' _ => by rw [e]; exact h t' fun p hp => N p (.tail _ hp)) hs
end
theorem rows13 : True := by
  k_with "call ref" => (k_here; (with_reducible show wpAny _ _ (call (Value.ref 419) _) _ _ _); k_dflt (refine lits_use (by k_asm) (by k_asm) (by k_asm) (by k_asm) (by k_asm) (by first | exact rfl | assumption) (by ktr_room) (by ktr_units)  ?_); intro l'q t1'q t2'q t3'q t4'q h'q tk'q F'q N'q; (try k_sweep))
  k_with "subscriptTail" => (k_here; (with_reducible show wpAny _ _ (subscriptTail (PySem.Expr.Name _ _) _ (Value.ref _) (Value.int _ _)) _ _ _); k_dflt (refine name_item (by assumption) (by ktb_isList) (by repeat constructor) ?_ (by with_unfolding_all rfl)); intro _)
  k_with "subscriptTail" => (k_here; (with_reducible show wpAny _ _ (subscriptTail (PySem.Expr.Call _ _ _ _) _ (Value.ref _) (Value.int _ _)) _ _ _); (rename News _ _ _ _ => lN'q); k_dflt (refine lit_itemS (by assumption) lN'q ?_ (by with_unfolding_all rfl)); clear lN'q; intro _ N'q)
  trivial
/-- a dict of the law's, at an address -/
inductive Rows (w : World) (led : Led) : List Value → List (List (PySem.Str × Value)) → Prop
  | nil : Rows w led [] []
  | cons {d o kvs vs ks} : (d, o) ∈ led → o.IsDictOf (PySem.strKind MProg w) kvs → (d == sysModules) = false → GoodD kvs → Rows w led vs ks → Rows w led (.ref d :: vs) (kvs :: ks)
/-- what the rows tell for a name, the last of them that has it -/
def rowsAt (v : Option Value) (ks : List (List (PySem.Str × Value))) (nm : PySem.Str) : Option Value := ks.foldl (fun v kvs => (valueAt kvs nm).or v) v
def OkV (v : Option Value) : Prop := v.getD .none = .none ∨ ∃ z t, v = some (.str z t) ∧ z ∈ V15
theorem okV_good {kvs : List (PySem.Str × Value)} (hg : GoodD kvs) {v : Option Value} (hv : OkV v) (nm : PySem.Str) : OkV ((valueAt kvs nm).or v) := by
  cases h : valueAt kvs nm with
  | none => exact hv
  | some y =>
    rcases hg nm y h with rfl | ⟨z, t, rfl, hz⟩
    · exact .inl rfl
    · exact .inr ⟨z, t, rfl, hz⟩
theorem rows_ok {w : World} {led : Led} : ∀ {refs : List Value} {ks : List (List (PySem.Str × Value))}, Rows w led refs ks → ∀ (v : Option Value) (nm : PySem.Str), OkV v → OkV (rowsAt v ks nm)
  | _, _, .nil, _, _, h => h
  | _, _, .cons _ _ _ hg r, v, nm, h => rows_ok r _ nm (okV_good hg h nm)
def pieceOf (v : Option Value) (nm : PySem.Str) (left : Bool) : PySem.Str := match v.getD .none with
  | .str z _ => z
  | _ => if left then PySem.Str.ofString "{" ++ nm ++ PySem.Str.ofString "}" else PySem.Str.ofString ""
def dueStep (ks : List (List (PySem.Str × Value))) (left : Bool) (due : PySem.Str) (k : Int) : PySem.Str := due ++ litS k ++ pieceOf (rowsAt none ks (nameS k)) (nameS k) left
theorem nameS_len (k : Int) : (nameS k).length ≤ 4 := by
  unfold nameS
  by_cases h0 : k = 0
  · rw [if_pos h0]; decide
  · rw [if_neg h0]
    by_cases h1 : k = 1
    · rw [if_pos h1]; decide
    · rw [if_neg h1]
      by_cases h2 : k = 2
      · rw [if_pos h2]; decide
      · rw [if_neg h2]; decide
theorem litS_len (k : Int) : (litS k).length ≤ 3 := by
  unfold litS
  by_cases h0 : k = 0
  · rw [if_pos h0]; decide
  · rw [if_neg h0]
    by_cases h1 : k = 1
    · rw [if_pos h1]; decide
    · rw [if_neg h1]
      by_cases h2 : k = 2
      · rw [if_pos h2]; decide
      · rw [if_neg h2]; decide
theorem pieceOf_len {v : Option Value} (hv : OkV v) (nm : PySem.Str) (hn : nm.length ≤ 4) (left : Bool) : (pieceOf v nm left).length ≤ 6 := by
  rcases hv with hv | ⟨z, t, rfl, hz⟩
  · unfold pieceOf
    rw [hv]
    cases left
    · show (PySem.Str.ofString "").length ≤ 6
      decide
    · show (PySem.Str.ofString "{" ++ nm ++ PySem.Str.ofString "}").length ≤ 6
      rw [PySem.Str.length_append, PySem.Str.length_append, le4, le5]; omega
  · have := v15_lens z hz
    show z.length ≤ 6
    omega
theorem dueFold_len (ks : List (List (PySem.Str × Value))) (left : Bool) (hk : ∀ nm, OkV (rowsAt none ks nm)) : ∀ (pre : List Int) (due : PySem.Str), (pre.foldl (dueStep ks left) due).length ≤ due.length + 9 * pre.length
  | [], _ => by simp
  | k :: r, due => by
    have h := dueFold_len ks left hk r (dueStep ks left due k)
    have h1 := pieceOf_len (hk (nameS k)) (nameS k) (nameS_len k) left
    have h2 := litS_len k
    have h3 : (dueStep ks left due k).length = due.length + (litS k).length + (pieceOf (rowsAt none ks (nameS k)) (nameS k) left).length := by unfold dueStep; rw [PySem.Str.length_append, PySem.Str.length_append]
    rw [List.foldl_cons, List.length_cons]
    omega
def dueAll (ks : List (List (PySem.Str × Value))) (left : Bool) : PySem.Str := ([0, 1, 2, 3, 0] : List Int).foldl (dueStep ks left) (PySem.Str.ofString "") ++ PySem.Str.ofString "/"
theorem law_due (w : World) (nn : Nat) (rl : Addr) (refs : List Value) (rows : Led) (left : Bool) (ks : List (List (PySem.Str × Value))) (hrows : Rows w rows refs ks) : Ctr 60 w 433 [.ref rl, .bool left] ((rl, W.listOf refs.toArray nn) :: rows) (RPost ((rl, W.listOf refs.toArray nn) :: rows) fun tl r => tl = [] ∧ ∃ t, r = .str (dueAll ks left) t) := by
  intro mean mg mb dp un gd cn cs a ccd cl outer A₀ base h₀ L m rest s Q E B F X N hne T hk hdp hun hret
  refine wpAny_call ?_
  k_dflt ktr_enter
  clear N hne F
  have hoks : ∀ nm, OkV (rowsAt none ks nm) := fun nm => rows_ok hrows none nm (.inl rfl)
  k_steps
  refine fun I l1 => ?_
  rename_i l' _ _
  generalize hlo : W.listOf _ 0 = lo at *
  obtain ⟨J1, hJ1⟩ : ∃ J : List Value → (PySem.Str → Option Value) → Led → Prop, ∀ l m news, J l m news ↔ (∃ pre post due t, ([0, 1, 2, 3, 0] : List Int) = pre ++ post ∧ IntsAre l post ∧ due = pre.foldl (dueStep ks left) (PySem.Str.ofString "") ∧ m (PySem.Str.ofString "due") = some (.str due t) ∧ m (PySem.Str.ofString "rows") = some (.ref rl) ∧ m (PySem.Str.ofString "left") = some (.bool left) ∧ news = (l', lo) :: (rl, W.listOf refs.toArray nn) :: rows) := ⟨_, fun _ _ _ => Iff.rfl⟩
  refine list_ind J1 ?_ ?_ _ _ _ ?_
  · rintro m news hj h tk F' N'
    obtain ⟨pre, post, due, t, hpp, hia, hdue, hm1, hm2, hm3, rfl⟩ := (hJ1 _ _ _).mp hj
    clear hj
    cases hia
    rw [List.append_nil] at hpp
    rw [mput_self hm1] at F'
    have hdl : due.length ≤ 45 := by
      have := dueFold_len ks left hoks pre (PySem.Str.ofString "")
      rw [← hdue, le0, ← hpp] at this
      exact this
    k_steps
    have e : due ++ PySem.Str.ofString "/" = dueAll ks left := by rw [hdue, ← hpp]; rfl
    rw [e]
    rename News _ _ _ rest => hR
    revert hR
    rename News h₀ L _ _ => hN
    intro hR
    refine hret _ ([] ++ ((rl, W.listOf refs.toArray nn) :: rows)) _ _ (by k_asm) (news_join hN hR ?_) ⟨_, rfl, rfl, _, rfl⟩
    intro p hp
    exact List.mem_cons_of_mem _ hp
  · rintro v r m news hj it h tk hc F' N'
    obtain ⟨pre, post, due, t, hpp, hia, hdue, hm1, hm2, hm3, rfl⟩ := (hJ1 _ _ _).mp hj
    clear hj
    cases hia with
    | @cons k tk4 _ post hia =>
    have hk4 : k = 0 ∨ k = 1 ∨ k = 2 ∨ k = 3 := by
      have : k ∈ ([0, 1, 2, 3, 0] : List Int) := by rw [hpp]; simp
      simp only [List.mem_cons, List.not_mem_nil, or_false] at this
      omega
    have hdl : due.length ≤ 45 := by
      have := dueFold_len ks left hoks pre (PySem.Str.ofString "")
      have hz := congrArg List.length hpp
      simp only [List.length_append, List.length_cons, List.length_nil] at hz
      rw [← hdue, le0] at this
      omega
    rw [mput_self hm1, mput_self hm2, mput_self hm3] at F'
    have hpp' : ([0, 1, 2, 3, 0] : List Int) = (pre ++ [k]) ++ post := by rw [hpp]; simp
    have hfold : ∀ X, X = dueStep ks left due k → X = (pre ++ [k]).foldl (dueStep ks left) (PySem.Str.ofString "") := by
      intro X hX
      rw [List.foldl_append, ← hdue, hX]; rfl
    have hoff : ∀ p ∈ ((l', lo) :: (rl, W.listOf refs.toArray nn) :: rows : Led), p.1 ≠ I := fun p hp => Nat.ne_of_lt (l1 p hp)
    have hnl := nameS_len k
    have hll := litS_len k
    k_steps
    refine fun I2 l2 => ?_
    obtain ⟨J2, hJ2⟩ : ∃ J : List Value → (PySem.Str → Option Value) → Led → Prop, ∀ l m news, J l m news ↔ (∃ ks' V v, Rows w rows l ks' ∧ rowsAt v ks' (nameS k) = rowsAt none ks (nameS k) ∧ OkV v ∧ V = v.getD .none ∧ m (PySem.Str.ofString "value") = some V ∧ (∃ t, m (PySem.Str.ofString "name") = some (.str (nameS k) t)) ∧ (∃ t, m (PySem.Str.ofString "k") = some (.int k t)) ∧
       m (PySem.Str.ofString "due") = some (.str due t) ∧ m (PySem.Str.ofString "rows") = some (.ref rl) ∧ m (PySem.Str.ofString "left") = some (.bool left) ∧ news = (I, it) :: (l', lo) :: (rl, W.listOf refs.toArray nn) :: rows) := ⟨_, fun _ _ _ => Iff.rfl⟩
    refine list_ind J2 ?_ ?_ _ _ _ ?_
    · rintro m2 news hj2 h2 tk2 F' N'
      obtain ⟨ks', V, v, hr, hat, hok, rfl, hn1, ⟨tn, hn2⟩, ⟨tk5, hn3⟩, hn4, hn5, hn6, rfl⟩ := (hJ2 _ _ _).mp hj2
      clear hj2
      rw [mput_self hn1, mput_self hn2, mput_self hn3, mput_self hn4, mput_self hn5, mput_self hn6] at F'
      cases hr
      have hat : rowsAt none ks (nameS k) = v := hat.symm
      rcases hok with hv0 | ⟨z, tz, rfl, hz⟩
      · rw [hv0] at F'
        cases left
        all_goals
          k_steps
          rename News _ _ _ _ => hNN
          refine ⟨_, _, _, (l', lo) :: (rl, W.listOf refs.toArray nn) :: rows, rfl, (by k_asm), hNN, hoff, (by rw [← hlo]; exact List.Mem.head _), (hJ1 _ _ _).mpr ⟨pre ++ [k], post, _, _, hpp', hia, hfold _ ?_, rfl, rfl, rfl, rfl⟩⟩
          unfold dueStep pieceOf; rw [hat, hv0]; rfl
      · simp only [Option.getD] at F'
        have hzl := v15_lens z hz
        k_steps
        rename News _ _ _ _ => hNN
        refine ⟨_, _, _, (l', lo) :: (rl, W.listOf refs.toArray nn) :: rows, rfl, (by k_asm), hNN, hoff, (by rw [← hlo]; exact List.Mem.head _), (hJ1 _ _ _).mpr ⟨pre ++ [k], post, _, _, hpp', hia, hfold _ ?_, rfl, rfl, rfl, rfl⟩⟩
        unfold dueStep; rw [hat]; rfl
    · rintro v2 r2 m2 news hj2 it2 h2 tk2 hc2 F' N'
      obtain ⟨ks', V, v, hr, hat, hok, rfl, hn1, ⟨tn, hn2⟩, ⟨tk5, hn3⟩, hn4, hn5, hn6, rfl⟩ := (hJ2 _ _ _).mp hj2
      clear hj2
      rw [mput_self hn1, mput_self hn2, mput_self hn3, mput_self hn4, mput_self hn5, mput_self hn6] at F'
      cases hr with
      | @cons d o kvs _ ks2 hmem hd hlo2 hg hr =>
      have hoff2 : ∀ p ∈ ((I, it) :: (l', lo) :: (rl, W.listOf refs.toArray nn) :: rows : Led), p.1 ≠ I2 := fun p hp => Nat.ne_of_lt (l2 p hp)
      have hmr : (rl, W.listOf refs.toArray nn) ∈ ((I, it) :: (l', lo) :: (rl, W.listOf refs.toArray nn) :: rows : Led) := .tail _ (.tail _ (.head _))
      have hat : rowsAt ((valueAt kvs (nameS k)).or v) ks2 (nameS k) = rowsAt none ks (nameS k) := hat
      have hok2 := okV_good hg hok (nameS k)
      cases hva : valueAt kvs (nameS k) with
      | none =>
        have hb : (valueAt kvs (nameS k)).isSome = false := by rw [hva]; rfl
        rw [hva] at hat
        k_steps
        exact ⟨_, _, _, (I, it) :: (l', lo) :: (rl, W.listOf refs.toArray nn) :: rows, rfl, (by k_asm), (by k_asm), hoff2, hmr, (hJ2 _ _ _).mpr ⟨ks2, _, v, hr, hat, hok, rfl, rfl, ⟨_, rfl⟩, ⟨_, rfl⟩, rfl, rfl, rfl, rfl⟩⟩
      | some y =>
        have hb : (valueAt kvs (nameS k)).isSome = true := by rw [hva]; rfl
        rw [hva] at hat hok2
        k_steps
        exact ⟨_, _, _, (I, it) :: (l', lo) :: (rl, W.listOf refs.toArray nn) :: rows, rfl, (by k_asm), (by k_asm), hoff2, hmr, (hJ2 _ _ _).mpr ⟨ks2, y, some y, hr, hat, hok2, rfl, rfl, ⟨_, rfl⟩, ⟨_, rfl⟩, rfl, rfl, rfl, rfl⟩⟩
    · exact (hJ2 _ _ _).mpr ⟨ks, .none, none, by rw [List.toList_toArray]; exact hrows, rfl, .inl rfl, rfl, rfl, ⟨_, rfl⟩, ⟨_, rfl⟩, rfl, rfl, rfl, rfl⟩
  · exact (hJ1 _ _ _).mpr ⟨[], [0, 1, 2, 3, 0], _, _, rfl, .cons _ _ (.cons _ _ (.cons _ _ (.cons _ _ (.cons _ _ .nil)))), rfl, rfl, rfl, rfl, rfl⟩
end
end

section
open PySem PySem.W PyProof.Rows PySem.Spec PySem.Calls
section
abbrev lkDict (w : World) (t1 t2 t3 : Tok) (p n k : Value) : Obj := dictOf [fld w (PySem.Str.ofString "prev") t1 p, fld w (PySem.Str.ofString "next") t2 n, fld w (PySem.Str.ofString "key") t3 k] 3
abbrev osDict (w : World) (t1 t2 : Tok) (r mp : Addr) : Obj := dictOf [fld w (PySem.Str.ofString "_root") t1 (.ref r), fld w (PySem.Str.ofString "_map") t2 (.ref mp)] 2
theorem rows14 : True := by
  k_with_none
  k_with "compareOp In str str" => (k_here; first | refine in_strD (b := true) (by decide +kernel) ?_ | refine in_strD (b := false) (by decide +kernel) ?_)
  k_with "exec Assign cons ListComp" => (k_here; (with_reducible show wpAny _ _ (exec (Stmt.Assign [Expr.Attribute _ _ _] _ _) _) _ _ _); with_reducible refine plainObj_wpAny_Assign_Attribute ?_ ?_; rotate_left; with_unfolding_all rfl)
  k_with "exec For Tuple Attribute cons nil" => (k_here; (rename Fr _ _ _ _ => lF'); (with_unfolding_all refine' For_turns lF' ?_; k_whole))
  k_with "call builtin:dict.get" => (k_here; k_dflt (refine kdg_get2 (knd := PySem.strKind _ _) (by k_asm) (by k_mem) (by k_asm) (by assumption) (strKind_is _ _ _ _) _ (by assumption) ?_); (try dsimp only [Option.getD]))
  k_with "truthy str" => (k_here; refine truthy_strT (by omega) ?_)
  k_with "subscriptTail" => (k_here; k_dflt ((with_reducible show wpAny _ _ (subscriptTail _ _ (Value.ref _) (Value.str _ _)) _ _ _); refine kdt_tail (knd := PySem.strKind _ _) (by k_asm) (by k_mem) (by k_asm) ?_))
  k_with "getItem ref str" => (k_here; k_dflt (refine kdt_getItem (knd := PySem.strKind _ _) (by k_asm) (by k_mem) (by k_asm) (strKind_is _ _ _ _) (by first | assumption | rfl) ?_))
  k_with "mem" => (repeat (first | exact List.Mem.head _ | assumption | refine List.Mem.tail _ ?_))
  k_with "sub" => ((try dsimp only [List.cons_append, List.nil_append]); (repeat (refine List.forall_mem_cons.mpr ⟨by walk_at "mem", ?_⟩)); first | (intro p hp; walk_at "mem"; done) | exact fun _ h => (List.not_mem_nil h).elim)
  k_with "setItem ref str" => (k_here; k_dflt (refine kda_set (knd := PySem.strKind _ _) (by k_asm) (by k_asm) (by k_updF) (by k_asm) (strKind_is _ _ _ _) (by (rw [sizeLine_eq]; first | exact Nat.zero_le _ | omega)) ?_); intro h'q o'q F'q N'q hd'q; (try dsimp only at N'q))
  k_with "compareOp NotIn str ref" => (k_here; k_dflt (refine kdg_notin (knd := PySem.strKind _ _) (by k_asm) (by k_mem) (by k_asm) (by assumption) (strKind_is _ _ _ _) _ (by assumption) ?_))
  trivial
/-- an ordered set: its last link is its root -/
abbrev os6 (w : World) (x d r dr mp : Addr) (t1 t2 t3 t4 t5 : Tok) (k : Value) (om : Obj) : Led :=
  [(x, instObj 117 d), (d, osDict w t1 t2 r mp), (r, instObj 38 dr), (dr, lkDict w t3 t4 t5 (.ref r) (.ref r) k), (mp, om)]
/-- an ordered set with a last link -/
abbrev os8 (w : World) (x d r dr mp p dp : Addr) (t1 t2 t3 t4 t5 t6 t7 t8 : Tok) (n k n' k' p' : Value) (om : Obj) : Led :=
  [(x, instObj 117 d), (d, osDict w t1 t2 r mp), (r, instObj 38 dr), (dr, lkDict w t3 t4 t5 (.ref p) n k), (mp, om), (p, instObj 38 dp), (dp, lkDict w t6 t7 t8 p' n' k')]
/-- an ordered set that was added to, and what stands at top -/
def OsPost (w : World) (top x d r dr mp : Addr) (ot : Obj) (N : Nat) (low : Addr) (led : Led) (v : Value) : Prop := v = .none ∧ ∃ p dp t1 t2 t3 t4 t5 t6 t7 t8 n k n' k' p' om kvs, led = (top, ot) :: os8 w x d r dr mp p dp t1 t2 t3 t4 t5 t6 t7 t8 n k n' k' p' om ∧ om.IsDictOf (PySem.strKind MProg w) kvs ∧ kvs.length ≤ N ∧ low < dp ∧ dp < p
theorem os_fin {w : World} {h₀ h' : Heap} {L : Addr} {m : PySem.Str → Option Value} {s : Shared} {tk' : Nat} {Q : Value → Shared → Prop} {led rest : Led} {N : Nat} {low top x d r dr mp p dp : Addr} {ot om : Obj} {t1 t2 t3 t4 t5 t6 t7 t8 : Tok} {n k n' k' p' : Value} {kvs : List (PySem.Str × Value)}
   (hret : ∀ r' news' h' tk', Fr h₀ L h' m → News h₀ L h' (news' ++ rest) → OsPost w top x d r dr mp ot N low news' r' → Q r' { s with heap := h', toks := tk' })
   (F : Fr h₀ L h' m) (NN : News h₀ L h' led) (R : News h₀ L h' rest)
   (m0 : (top, ot) ∈ led) (m1 : (x, instObj 117 d) ∈ led) (m2 : (d, osDict w t1 t2 r mp) ∈ led) (m3 : (r, instObj 38 dr) ∈ led) (m4 : (dr, lkDict w t3 t4 t5 (.ref p) n k) ∈ led) (m5 : (mp, om) ∈ led) (m6 : (p, instObj 38 dp) ∈ led) (m7 : (dp, lkDict w t6 t7 t8 p' n' k') ∈ led)
   (hd : om.IsDictOf (PySem.strKind MProg w) kvs) (hl : kvs.length ≤ N) (h1 : low < dp) (h2 : dp < p) : Q .none { s with heap := h', toks := tk' } := by
  refine hret _ ((top, ot) :: os8 w x d r dr mp p dp t1 t2 t3 t4 t5 t6 t7 t8 n k n' k' p' om) _ _ F (news_join NN R ?_) ⟨rfl, p, dp, t1, t2, t3, t4, t5, t6, t7, t8, n, k, n', k', p', om, kvs, rfl, hd, hl, h1, h2⟩
  intro q hq
  simp only [os8, List.mem_cons, List.not_mem_nil, or_false] at hq
  rcases hq with rfl | rfl | rfl | rfl | rfl | rfl | rfl | rfl <;> assumption
theorem os_add6 (w : World) (top x d r dr mp : Addr) (ot : Obj) (t1 t2 t3 t4 t5 t6 : Tok) (k : Value) (om : Obj) (nm : PySem.Str)
   (hm : om.IsDictOf (PySem.strKind MProg w) []) (lo : (mp == sysModules) = false) (hlt : @LT.lt Nat _ d x ∧ @LT.lt Nat _ x dr ∧ @LT.lt Nat _ dr r ∧ @LT.lt Nat _ r mp ∧ @LT.lt Nat _ mp top) :
   Ctr 60 w 78 [.ref x, .str nm t6] ((top, ot) :: os6 w x d r dr mp t1 t2 t3 t4 t5 k om) (OsPost w top x d r dr mp ot 1 top) := by
  intro mean mg mb dp un gd cn cs a ccd cl outer A₀ base h₀ L m rest s Q E B F X N hne T hk hdp hun hret
  refine wpAny_call ?_
  k_dflt ktr_enter
  clear N hne F
  have hb : (valueAt ([] : List (PySem.Str × Value)) nm).isSome = false := rfl
  rename News _ _ _ _ => N1
  simp only [os6] at N1
  k_steps
  rename News _ _ _ rest => hR
  revert hR
  rename News h₀ L _ _ => hN
  intro hR
  rename Obj.IsDictOf _ _ (stored _ _ _) => hdd
  refine' os_fin hret ?f hN hR ?m0 ?m1 ?m2 ?m3 ?m4 ?m5 ?m6 ?m7 hdd ?l ?h1 ?h2
  case f => k_asm
  case m0 => k_mem
  case m1 => k_mem
  case m2 => k_mem
  case m3 => k_mem
  case m4 => k_mem
  case m5 => k_mem
  case m6 => k_mem
  case m7 => k_mem
  case l => exact stored_length_le _ _ _
  case h1 => refine ltN ?_; omega
  case h2 => refine ltN ?_; omega
theorem os_add8 (w : World) (top x d r dr mp p dp : Addr) (ot : Obj) (t1 t2 t3 t4 t5 t6 t7 t8 t9 : Tok) (n k n' k' p' : Value) (om : Obj) (kvs : List (PySem.Str × Value)) (nm : PySem.Str) (N : Nat) (low : Addr) (hN9 : kvs.length ≤ N) (hN8 : N ≤ 1000)
   (hm : om.IsDictOf (PySem.strKind MProg w) kvs) (lo : (mp == sysModules) = false) (hlt : @LT.lt Nat _ d x ∧ @LT.lt Nat _ x dr ∧ @LT.lt Nat _ dr r ∧ @LT.lt Nat _ r mp ∧ @LT.lt Nat _ mp dp ∧ @LT.lt Nat _ dp p ∧ @LT.lt Nat _ p top) (hlow : @LT.lt Nat _ low dp) :
   Ctr 60 w 78 [.ref x, .str nm t9] ((top, ot) :: os8 w x d r dr mp p dp t1 t2 t3 t4 t5 t6 t7 t8 n k n' k' p' om) (OsPost w top x d r dr mp ot (N + 1) low) := by
  intro mean mg mb dp un gd cn cs a ccd cl outer A₀ base h₀ L m rest s Q E B F X N hne T hk hdp hun hret
  refine wpAny_call ?_
  k_dflt ktr_enter
  clear N hne F
  rename News _ _ _ _ => N1
  simp only [os8] at N1
  have hN7 : kvs.length ≤ 1000 := Nat.le_trans hN9 hN8
  cases hb : (valueAt kvs nm).isSome with
  | true =>
    k_steps
    rename News _ _ _ rest => hR
    revert hR
    rename News h₀ L _ _ => hN
    intro hR
    refine' os_fin hret ?f hN hR ?m0 ?m1 ?m2 ?m3 ?m4 ?m5 ?m6 ?m7 hm ?l hlow ?h2
    case f => k_asm
    case m0 => k_mem
    case m1 => k_mem
    case m2 => k_mem
    case m3 => k_mem
    case m4 => k_mem
    case m5 => k_mem
    case m6 => k_mem
    case m7 => k_mem
    case l => omega
    case h2 => refine ltN ?_; omega
  | false =>
    k_steps
    rename News _ _ _ rest => hR
    revert hR
    rename News h₀ L _ _ => hN
    intro hR
    rename Obj.IsDictOf _ _ (stored _ _ _) => hdd
    refine' os_fin hret ?f hN hR ?m0 ?m1 ?m2 ?m3 ?m4 ?m5 ?m6 ?m7 hdd ?l ?h1 ?h2
    case f => k_asm
    case m0 => k_mem
    case m1 => k_mem
    case m2 => k_mem
    case m3 => k_mem
    case m4 => k_mem
    case m5 => k_mem
    case m6 => k_mem
    case m7 => k_mem
    case l => exact Nat.le_trans (stored_length_le _ _ _) (Nat.succ_le_succ hN9)
    case h1 => refine ltN ?_; omega
    case h2 => refine ltN ?_; omega
end
end

section
open PySem PySem.W PyProof.Rows PySem.Spec PySem.Calls PyProof.V
section
variable {w : World} {led : Led} {mean : ExcName → Option Value} {mg mb : PySem.Str → Option Value} {dp un : Nat} {gd : Option (List Code)} {cn : PySem.Str} {cs : Scope} {a : Addr} {ccd : Value} {cl : List (PySem.Str × Addr)} {outer : List Env} {A₀ : Around} {base h₀ : Heap} {L : Addr} {m : PySem.Str → Option Value} {s : Shared} {Q E : Value → Shared → Prop}
theorem exprs_use {u : PySem.Str} {t1 : Tok} (hu : u.length ≤ 1000) (B : Below A₀ base outer h₀) (F : Fr h₀ L s.heap m) (X : (Mine.KF w.params).In h₀) (N : News h₀ L s.heap led) (T : Top Mine.vw LS mean mg mb h₀) (hk : cs.kind = .function) (hdp : dp + 60 < recursionLimit) (hun : un + 10 * 60 < cLine)
   (hret : ∀ l vs ts h' tk', Fr h₀ L h' m → News h₀ L h' ((l, W.listOf vs.toArray vs.length) :: (ts ++ led)) → Tps vs (exScan u 0 u.cps.toList (none, [])).2 ts → (∀ p ∈ ts, l < p.1) → Q (.ref l) { s with heap := h', toks := tk' }) :
   wpAny (model MProg w) (ktrTop dp un gd cn cs L a ccd cl outer) (call (.ref 325) [.str u t1]) Q E s := by
  refine Ctr.useR (exprs w t1 u hu) B F X N T hk (fun _ h => nomatch h) hdp hun ?_
  rintro r tl h' tk' F' N' ⟨l, vs, ts, rfl, rfl, hT, hl⟩
  exact hret l vs ts h' tk' F' N' hT hl
theorem uv_use {nm : PySem.Str} {t9 : Tok} (hn : nm ∈ Names4) (B : Below A₀ base outer h₀) (F : Fr h₀ L s.heap m) (X : (Mine.KF w.params).In h₀) (N : News h₀ L s.heap led) (T : Top Mine.vw LS mean mg mb h₀) (hk : cs.kind = .function) (hdp : dp + 150 < recursionLimit) (hun : un + 10 * 150 < cLine)
   (hret : ∀ r d tl h' tk', Fr h₀ L h' m → News h₀ L h' (tl ++ led) → Hold (∀ p ∈ led, p.1 < d) → UvPost w nm d tl r → Q r { s with heap := h', toks := tk' }) :
   wpAny (model MProg w) (ktrTop dp un gd cn cs L a ccd cl outer) (call (.ref 265) [.str nm t9]) Q E s :=
  uv_init w nm hn t9 _ _ _ _ _ _ _ _ _ _ _ _ _ _ _ _ _ _ _ _ _ B F X N T hk hdp hun hret
local macro_rules | `(tactic| ktr_units) => `(tactic| (have hcL9 := cLine_is; ((try simp only [units_under_make, units_in1, units_deeper, Around.mark_units, units_caller] at *); (try dsimp only [ktrTop] at *); omega)))
theorem rows15 : True := by
  k_with_none
  k_with "compareOp In str str" => (k_here; first | refine in_strD (b := true) (by decide +kernel) ?_ | refine in_strD (b := false) (by decide +kernel) ?_)
  k_with "exec Assign cons ListComp" => (k_here; (with_reducible show wpAny _ _ (exec (Stmt.Assign [Expr.Attribute _ _ _] _ _) _) _ _ _); with_reducible refine plainObj_wpAny_Assign_Attribute ?_ ?_; rotate_left; with_unfolding_all rfl)
  k_with "exec For Tuple Attribute cons nil" => (k_here; (rename Fr _ _ _ _ => lF'); (with_unfolding_all refine' For_turns lF' ?_; k_whole))
  k_with "call builtin:dict.get" => (k_here; k_dflt (refine kdg_get2 (knd := PySem.strKind _ _) (by k_asm) (by k_mem) (by k_asm) (by assumption) (strKind_is _ _ _ _) _ (by assumption) ?_); (try dsimp only [Option.getD]))
  k_with "truthy str" => (k_here; refine truthy_strT (by omega) ?_)
  k_with "subscriptTail" => (k_here; k_dflt ((with_reducible show wpAny _ _ (subscriptTail _ _ (Value.ref _) (Value.str _ _)) _ _ _); refine kdt_tail (knd := PySem.strKind _ _) (by k_asm) (by k_mem) (by k_asm) ?_))
  k_with "getItem ref str" => (k_here; k_dflt (refine kdt_getItem (knd := PySem.strKind _ _) (by k_asm) (by k_mem) (by k_asm) (strKind_is _ _ _ _) (by first | assumption | rfl) ?_))
  k_with "mem" => (repeat (first | exact List.Mem.head _ | assumption | refine List.Mem.tail _ ?_))
  k_with "sub" => ((try dsimp only [List.cons_append, List.nil_append]); (repeat (refine List.forall_mem_cons.mpr ⟨by walk_at "mem", ?_⟩)); first | (intro p hp; walk_at "mem"; done) | exact fun _ h => (List.not_mem_nil h).elim)
  k_with "call ref" => (k_here; (with_reducible show wpAny _ _ (call (Value.ref 325) _) _ _ _); k_dflt (refine exprs_use (by assumption) (by k_asm) (by k_asm) (by k_asm) (by k_asm) (by k_asm) (by first | exact rfl | assumption) (by ktr_room) (by ktr_units)  ?_); intro l' vs' ts' h3 tk3 F3 N'q hT'q hl'q; (try k_sweep))
  k_with "call ref" => (k_here; (with_reducible show wpAny _ _ (call (Value.ref 265) _) _ _ _); k_dflt (refine uv_use (by assumption) (by k_asm) (by k_asm) (by k_asm) (by k_asm) (by k_asm) (by first | exact rfl | assumption) (by ktr_room) (by ktr_units)  ?_); intro r2 d2 tl2 h2 tk2 F2 N2 hl2 hP2; (try k_sweep))
  k_with "eval ListComp" => (k_here; lcg_calm; k_dflt (refine ListComp_T (F₀ := by k_asm) (by with_unfolding_all rfl) (by decide) (by rfl) (by decide) (by rfl) (by rfl) (by rfl) (by decide) ?_))
  trivial
local macro_rules | `(tactic| k_all) => `(tactic| with_reducible assumption)
theorem rows16 : True := by
  k_with "exec For Name Attribute cons nil" => (k_here; (rename Fr _ _ _ _ => lF'q); (with_unfolding_all refine For_invVF lF'q (by exact rfl) (by exact rfl) ?_; k_whole))
  k_with "pyIter ref" => (k_here; (with_reducible show wpAny _ _ (pyIter (Value.ref _)) (fun it s₂ => LoopAtV _ _ _ _ _ _ _ _ _ it s₂) _ _); (rename Fr _ _ _ _ => lF'q); (rename News _ _ _ _ => lN'q); (with_unfolding_all refine iter_listH (by rfl) lF'q lN'q (by k_mem) (by rfl) (by rfl) ?_); clear lF'q lN'q)
  trivial
theorem stopAt {P : Prop} (h : Hold P) : P := h
theorem rows17 : True := by
  k_with "call ref" => (k_here; (with_reducible show wpAny _ _ (call (Value.ref 78) _) _ _ _); refine stopAt ?_)
  trivial
abbrev tmDict (w : World) (t1 t2 t3 tu : Tok) (u : PySem.Str) (lv os : Addr) : Obj := dictOf [fld w (PySem.Str.ofString "uri") t1 (.str u tu), fld w (PySem.Str.ofString "variables") t2 (.ref lv), fld w (PySem.Str.ofString "variable_names") t3 (.ref os)] 3
/-- an ordered set of the model, at the addresses that are told -/
inductive OsSt (w : World) (os dos r dr mp : Addr) (tO tP : Tok) (N : Nat) (I : Addr) : Led → Prop
  | none {t3 t4 t5 om} : om.IsDictOf (PySem.strKind MProg w) [] → OsSt w os dos r dr mp tO tP N I (os6 w os dos r dr mp tO tP t3 t4 t5 .none om)
  | some {p dp t3 t4 t5 t6 t7 t8 n k n' k' p' om kvs} : om.IsDictOf (PySem.strKind MProg w) kvs → kvs.length ≤ N → @LT.lt Nat _ I dp → @LT.lt Nat _ dp p → OsSt w os dos r dr mp tO tP N I (os8 w os dos r dr mp p dp tO tP t3 t4 t5 t6 t7 t8 n k n' k' p' om)
theorem allLt_mem {d : Addr} : ∀ {l : Led}, AllLt d l → ∀ p ∈ l, @LT.lt Nat _ p.1 d
  | [], _, _, h => nomatch h
  | _ :: _, x, p, h => by
    rcases List.mem_cons.mp h with rfl | h
    · exact x.1
    · exact allLt_mem x.2 p h
/-- the variables that were made, newest first -/
inductive Vobs (w : World) : List Value → List PySem.Str → Led → Prop
  | nil : Vobs w [] [] []
  | snoc {vs ns led} (nm : PySem.Str) (d : Addr) (tl : Led) (r : Value) : nm ∈ Names4 → UvPost w nm d tl r → Vobs w vs ns led → Vobs w (vs ++ [r]) (ns ++ [nm]) (tl ++ led)
/-- a template that stands on tl -/
def TmPost (w : World) (u : PySem.Str) (tl : Led) (r : Value) : Prop := ∃ x d D os ys vobs tA tB tC tu, r = .ref x ∧ tl = (x, instObj 391 d) :: (d, tmDict w tA tB tC tu u D os) :: (D, LCg.lst ys) :: vobs ∧ Vobs w ys ((exScan u 0 u.cps.toList (none, [])).2.map (·.2.2)) vobs
theorem Vobs.block {w : World} {vs ns led} (h : Vobs w vs ns led) : ∀ v ∈ vs, ∃ nm dd tl, nm ∈ Names4 ∧ UvPost w nm dd tl v ∧ ∀ p ∈ tl, p ∈ led := by
  induction h with
  | nil => intro v hv; cases hv
  | snoc nm d tl r hn hP _ ih =>
    intro v hv
    rcases List.mem_append.mp hv with hv | hv
    · obtain ⟨nm', dd, tl', a, b, c⟩ := ih v hv
      exact ⟨nm', dd, tl', a, b, fun p hp => List.mem_append_right _ (c p hp)⟩
    · rw [List.mem_singleton.mp hv]
      exact ⟨nm, d, tl, hn, hP, fun p hp => List.mem_append_left _ hp⟩
theorem Vobs.refs {w : World} {vs ns led} (h : Vobs w vs ns led) : ∀ v ∈ vs, ∃ x, v = .ref x := by
  induction h with
  | nil => intro v hv; cases hv
  | snoc nm d tl r _ hP _ ih =>
    intro v hv
    rcases List.mem_append.mp hv with hv | hv
    · exact ih v hv
    · rw [List.mem_singleton.mp hv]
      obtain ⟨x, _, _, _, _, _, _, _, _, _, _, _, _, _, _, _, _, _, _, _, e, _⟩ := hP
      exact ⟨x, e⟩
theorem Vobs.notStr {w : World} {vs ns led} (h : Vobs w vs ns led) : ∀ z t, LCg.lst vs ≠ LCg.lst [.str z t] := by
  intro z t e
  have e1 : vs.toArray = [Value.str z t].toArray := by
    injection e with _ _ e
    injection e with e
  have e2 : vs = [Value.str z t] := by simpa using e1
  obtain ⟨x, hx⟩ := h.refs (.str z t) (by rw [e2]; exact List.Mem.head _)
  cases hx
theorem off1_mem {D : Addr} : ∀ {l : Led}, LCg.Off1 D l → ∀ p ∈ l, @Ne Nat p.1 D
  | [], _, _, h => nomatch h
  | _ :: _, x, p, h => by
    rcases List.mem_cons.mp h with rfl | h
    · exact x.1
    · exact off1_mem x.2 p h
theorem News.neOf {h₀ h : Heap} {L : Addr} {led : Led} (N : News h₀ L h led) {a b : Addr} {o o' : Obj} (h1 : (a, o) ∈ led) (h2 : (b, o') ∈ led) (hne : o.cls ≠ o'.cls) : a ≠ b := by
  rintro rfl
  have e1 := (N _ h1).1
  have e2 := (N _ h2).1
  dsimp only at e1 e2
  rw [e1] at e2
  exact hne (congrArg Obj.cls (Option.some.inj e2))
theorem News.sub {h₀ h : Heap} {L : Addr} {all led : Led} (N : News h₀ L h all) (hs : ∀ p ∈ led, p ∈ all) : News h₀ L h led := fun p hp => N p (hs p hp)
theorem exScan_len (u : PySem.Str) : ∀ (l : List Nat) (k : Nat) (st : Option Int × List (Int × Int × PySem.Str)), (exScan u k l st).2.length ≤ st.2.length + l.length
  | [], _, _ => Nat.le_refl _
  | c :: r, k, st => by
    have h := exScan_len u r (k + 1) (exStep u st k c)
    have h2 : (exStep u st k c).2.length ≤ st.2.length + 1 := by
      unfold exStep
      cases st.1 with
      | none => exact Nat.le_succ _
      | some j =>
        by_cases hc : c = 125
        · simp only [hc, if_true]
          by_cases hj : j + 1 < (k : Int)
          · rw [if_pos hj]; simp
          · rw [if_neg hj]; exact Nat.le_succ _
        · simp only [hc, if_false]; exact Nat.le_succ _
    show (exScan u (k + 1) r (exStep u st k c)).2.length ≤ _
    rw [List.length_cons]
    omega
theorem Tps.get {vs fs ts} (h : Tps vs fs ts) : ∀ {i : Nat} {v : Value}, vs[i]? = some v → ∃ T a b z t1 t2 t3, v = .ref T ∧ fs[i]? = some (a, b, z) ∧ (T, ({ cls := .type "tuple", data := .seq #[.int a t1, .int b t2, .str z t3] } : Obj)) ∈ ts := by
  induction h with
  | nil => intro i v h; simp at h
  | @snoc vs fs ts T a b z t1 t2 t3 hT ih =>
    intro i v hv
    have hl := hT.len
    by_cases hi : i < vs.length
    · rw [List.getElem?_append_left hi] at hv
      obtain ⟨T', a', b', z', s1, s2, s3, e1, e2, e3⟩ := ih hv
      exact ⟨T', a', b', z', s1, s2, s3, e1, by rw [List.getElem?_append_left (hl ▸ hi)]; exact e2, List.mem_cons_of_mem _ e3⟩
    · have hi' : i = vs.length := by
        have := (List.getElem?_eq_some_iff.mp hv).1
        simp at this; omega
      subst hi'
      simp at hv
      exact ⟨T, a, b, z, t1, t2, t3, hv.symm, by rw [hl]; simp, List.Mem.head _⟩
theorem UvPost.off {w : World} {nm : PySem.Str} {d : Addr} {tl led : Led} {r : Value} {h₀ hp : Heap} {L : Addr} (h : UvPost w nm d tl r) (N : News h₀ L hp led) (hs : ∀ p ∈ tl, p ∈ led) {b : Addr} {o : Obj} (hb : (b, o) ∈ led) (hlt : b < d) (ho : ∀ z t, o ≠ LCg.lst [.str z t]) : ∀ p ∈ tl, p.1 ≠ b := by
  obtain ⟨x, op, dop, vars, tup, opts, dflt, vn, t1, t2, t3, t4, t5, t6, t7, t8, t9, t10, oO, oD, rfl, rfl, hO, l1, l2, l3, l4, l5, l6, l7⟩ := h
  intro p hp
  simp only [uvLed, List.mem_cons, List.not_mem_nil, or_false] at hp
  have hlt := ltN hlt
  replace l1 := ltN l1
  replace l2 := ltN l2
  replace l3 := ltN l3
  replace l4 := ltN l4
  replace l5 := ltN l5
  replace l6 := ltN l6
  replace l7 := ltN l7
  rcases hp with rfl | rfl | rfl | rfl | rfl | rfl | rfl | rfl | rfl
  · intro e
    have h1 := (N _ (hs _ (List.Mem.head _))).1
    have h2 := (N _ hb).1
    dsimp only at e h1 h2
    rw [e, h2] at h1
    exact ho _ _ (Option.some.inj h1)
  all_goals (refine neN ?_; dsimp only; omega)
theorem os_start {w : World} {os dos r dr mp I D x d : Addr} {om : Obj} {ys : List Value} {u : PySem.Str} {vobs : Led} {n : Nat} {zA zB zC zu zO zP t3 t4 t5 : Tok} (hom : om.IsDictOf (PySem.strKind MProg w) []) (hn : n ≤ 1000) :
   ∃ N osl tA tB tC tu tO tP, OsSt w os dos r dr mp tO tP N I osl ∧ N + n ≤ 1000 ∧ ∀ p ∈ osl ++ ((D, LCg.lst ys) :: (x, instObj 391 d) :: (d, tmDict w tA tB tC tu u D os) :: vobs),
     p ∈ (mp, om) :: (r, instObj 38 dr) :: (dr, lkDict w t3 t4 t5 (.ref r) (.ref r) .none) :: (os, instObj 117 dos) :: (dos, osDict w zO zP r mp) :: (D, LCg.lst ys) :: (x, instObj 391 d) :: (d, tmDict w zA zB zC zu u D os) :: vobs := by
  refine ⟨0, _, zA, zB, zC, zu, zO, zP, .none (t3 := t3) (t4 := t4) (t5 := t5) hom, by omega, ?_⟩
  ((try dsimp only [os6, os8]); walk_at "sub")
theorem tm_init (w : World) (u : PySem.Str) (t1 : Tok) (hu : u.length ≤ 1000) (hin : ∀ q ∈ (exScan u 0 u.cps.toList (none, [])).2, q.2.2 ∈ Names4) :
   Ctr 400 w 391 [.str u t1] [] (RPost [] (TmPost w u)) := by
  intro mean mg mb dp un gd cn cs a ccd cl outer A₀ base h₀ L m rest s Q E B F X N hne T hk hdp hun hret
  refine call_cls F X N (by k_dflt k_is) (by k_dflt k_is) (by k_dflt k_is) ?_
  intro x d h' F' N' l1 l2
  clear F N hne
  have N1 : News h₀ L h' ([(x, instObj 391 d), (d, dictOf [] 0)] ++ rest) := N'
  have hne : ∀ q ∈ ([(x, instObj 391 d), (d, dictOf [] 0)] : Led), ∀ p ∈ rest, p.1 ≠ q.1 := by
    intro q hq p hp
    have := l1 p hp
    rcases List.mem_cons.mp hq with rfl | hq
    · exact Nat.ne_of_lt (Nat.lt_trans this l2)
    · rw [List.mem_singleton.mp hq]; exact Nat.ne_of_lt this
  clear N'
  replace l2 := ltN l2
  k_dflt ktr_enter
  clear N1 hne F' l1
  k_steps
  rename Tps _ _ _ => hT
  rename News _ _ _ _ => hNN
  have hfl : (exScan u 0 u.cps.toList (none, [])).2.length ≤ 1000 := by
    have := exScan_len u u.cps.toList 0 (none, [])
    have h2 : u.cps.toList.length = u.length := by simp [PySem.Str.length]
    simp only [List.length_nil, Nat.zero_add, h2] at this
    omega
  generalize hdo : dictOf _ 1 = dd at hNN
  generalize hfs : (exScan u 0 u.cps.toList (none, [])).2 = fs at *
  refine ⟨l', vs'.toArray, _, fun i ys news => ∃ vobs, news = vobs ++ ((l', W.listOf vs'.toArray vs'.length) :: (ts' ++ [(x, instObj 391 d), (d, dd)])) ∧ Vobs w ys ((fs.map (·.2.2)).take i) vobs ∧ ∀ p ∈ vobs, p.1 ≠ d, rfl, rfl, F3, hNN, .inr ⟨_, List.Mem.head _, rfl, _, rfl⟩, ?_, ⟨[], rfl, .nil, fun _ h => nomatch h⟩, ?_⟩
  · rw [List.size_toArray, hT.len, sizeLine_eq]; omega
  rintro s₂ ⟨hp, rfl⟩
  refine ⟨?_, ?_⟩
  · rintro i v ys news hv ⟨vobs, rfl, hV, hoff⟩
    rw [List.getElem?_toArray] at hv
    obtain ⟨T2, a2, b2, z, t11, t12, t13, rfl, hfi, hmem⟩ := hT.get hv
    have hz : z ∈ Names4 := hin _ (List.mem_of_getElem? hfi)
    refine ⟨T2, _, _, _, _, _, rfl, List.mem_append_right _ (List.mem_cons_of_mem _ (List.mem_append_left _ hmem)), rfl, rfl, ?_⟩
    intro I oI C oC D m₂ h tk E' hI hC hx1 hx2 hx3 F N off ne
    k_steps
    have hl2 := hl2.out
    have hsub : ∀ p ∈ tl2, p ∈ tl2 ++ ((I, oI) :: (C, oC) :: (D, LCg.lst ys) :: (vobs ++ ((l', W.listOf vs'.toArray vs'.length) :: (ts' ++ [(x, instObj 391 d), (d, dd)])))) := fun p hp => List.mem_append_left _ hp
    have hoI := hP2.off N2 hsub (b := I) (o := oI) (List.mem_append_right _ (.head _)) (hl2 _ (List.Mem.head _)) (by obtain ⟨fs9, e9⟩ := hI; intro z t e; rw [e] at e9; cases e9)
    have hoC := hP2.off N2 hsub (b := C) (o := oC) (List.mem_append_right _ (.tail _ (.head _))) (hl2 _ (.tail _ (List.Mem.head _))) (by obtain ⟨es, ep, e9, _⟩ := hC; intro z t e; rw [e] at e9; cases e9)
    have hoD := hP2.off N2 hsub (b := D) (o := LCg.lst ys) (List.mem_append_right _ (.tail _ (.tail _ (.head _)))) (hl2 _ (.tail _ (.tail _ (List.Mem.head _)))) (hV.notStr)
    have hod := hP2.off N2 hsub (b := d) (o := dd) (List.mem_append_right _ (.tail _ (.tail _ (.tail _ (List.mem_append_right _ (.tail _ (List.mem_append_right _ (.tail _ (.head _))))))))) (hl2 (d, dd) (.tail _ (.tail _ (.tail _ (List.mem_append_right _ (.tail _ (List.mem_append_right _ (.tail _ (.head _))))))))) (by rw [← hdo]; intro z t e; exact nomatch congrArg Obj.data e)
    refine LCg.CompEnd.intro F2 N2 (tl2 ++ (vobs ++ ((l', W.listOf vs'.toArray vs'.length) :: (ts' ++ [(x, instObj 391 d), (d, dd)])))) ?_ ?_ ?_ ⟨tl2 ++ vobs, by rw [List.append_assoc], ?_, ?_⟩
    · intro p hp
      rcases List.mem_cons.mp hp with rfl | hp
      · exact List.mem_append_right _ (List.Mem.head _)
      · rcases List.mem_cons.mp hp with rfl | hp
        · exact List.mem_append_right _ (.tail _ (List.Mem.head _))
        · rcases List.mem_cons.mp hp with rfl | hp
          · exact List.mem_append_right _ (.tail _ (.tail _ (List.Mem.head _)))
          · rcases List.mem_append.mp hp with hp | hp
            · exact List.mem_append_left _ hp
            · exact List.mem_append_right _ (.tail _ (.tail _ (.tail _ hp)))
    · refine LCg.Off3.of fun p hp => ?_
      rcases List.mem_append.mp hp with hp | hp
      · exact ⟨hoI p hp, hoC p hp, hoD p hp⟩
      · exact off.mem p hp
    · exact .inr ⟨W.listOf vs'.toArray vs'.length, by simp, rfl, _, rfl⟩
    · have e : (fs.map (·.2.2)).take (i + 1) = (fs.map (·.2.2)).take i ++ [z] := by
        rw [List.take_add_one, List.getElem?_map, hfi]; rfl
      rw [e]
      exact Vobs.snoc z d2 tl2 r2 hz hP2 hV
    · intro p hp
      rcases List.mem_append.mp hp with hp | hp
      · exact hod p hp
      · exact hoff p hp
  · rintro ys news hys ⟨vobs, rfl, hV, hoff⟩ D h tk F N o1
    have hys2 : (fs.map (·.2.2)).take vs'.toArray.size = fs.map (·.2.2) := by
      rw [List.size_toArray, hT.len]; exact List.take_of_length_le (by simp)
    rw [hys2] at hV
    have N2 : News _ _ h ((D, LCg.lst ys) :: (x, instObj 391 d) :: (d, dd) :: vobs) := News.sub N (by
      intro p hp
      simp only [List.mem_cons, List.mem_append, List.not_mem_nil, or_false] at hp ⊢
      rcases hp with hp | hp | hp | hp
      · exact .inl hp
      · exact .inr (.inr (.inr (.inr (.inl hp))))
      · exact .inr (.inr (.inr (.inr (.inr hp))))
      · exact .inr (.inl hp))
    have hDd : @Ne Nat d D := off1_mem o1 (d, dd) (by simp)
    subst hdo
    have hyl : ys.length ≤ 1000 := by rw [hys, List.size_toArray, hT.len]; exact hfl
    clear N hNN hT hys hys2 F3 o1
    k_steps
    refine fun I l1 => ?_
    rename_i os dos _ hA1 hA2 _ _ _ _ _ _ _ _ _ r dr _ hA3 hA4 _ _ _ _ _ _ _ _ _ _ _ _ _ _ _ _ _ _ _ mp _ om hlo hom _ _ _ hA5 _ hFF hNN _ _ _ _
    clear hNN
    have hvb : ∀ p ∈ vobs, @LT.lt Nat _ p.1 dos := allLt_mem hA1.2.2.2
    have ho : @LT.lt Nat _ dos os ∧ @LT.lt Nat _ os dr ∧ @LT.lt Nat _ dr r ∧ @LT.lt Nat _ r mp := ⟨hA2, hA3.1, hA4, hA5.1⟩
    have hb : @LT.lt Nat _ D dos ∧ @LT.lt Nat _ x dos ∧ @LT.lt Nat _ d dos := ⟨hA1.1, hA1.2.1, hA1.2.2.1⟩
    clear hA1 hA2 hA3 hA4 hA5
    have hIm := ltN (l1 (mp, om) (by walk_at "mem"))
    dsimp only at hIm
    obtain ⟨J, hJ⟩ : ∃ J : List Value → (PySem.Str → Option Value) → Led → Prop, ∀ l m news, J l m news ↔ (m (PySem.Str.ofString "self") = some (.ref x) ∧ (∀ v ∈ l, ∃ nm dd tl, nm ∈ Names4 ∧ UvPost w nm dd tl v ∧ ∀ p ∈ tl, p ∈ vobs) ∧
       ∃ N osl tA tB tC tu tO tP, OsSt w os dos r dr mp tO tP N I osl ∧ N + l.length ≤ 1000 ∧ ∀ p ∈ osl ++ ((D, LCg.lst ys) :: (x, instObj 391 d) :: (d, tmDict w tA tB tC tu u D os) :: vobs), p ∈ news) := ⟨_, fun _ _ _ => Iff.rfl⟩
    refine list_ind J ?_ ?_ _ _ _ ?_
    · rintro m news hj h tk F N'
      obtain ⟨hself, _, N, osl, tA, tB, tC, tu, tO, tP, _, _, hsub⟩ := (hJ _ _ _).mp hj
      clear hj
      replace N' := News.sub N' (led := (D, LCg.lst ys) :: (x, instObj 391 d) :: (d, tmDict w tA tB tC tu u D os) :: vobs) (fun p hp => hsub p (List.mem_append_right _ hp))
      clear hsub hFF l1
      k_steps
      rename News _ _ _ rest => hR
      revert hR
      rename News h₀ L _ _ => hN
      intro hR
      refine hret _ (((x, instObj 391 d) :: (d, tmDict w tA tB tC tu u D os) :: (D, LCg.lst ys) :: vobs) ++ []) _ _ (by k_asm) (news_join hN hR ?_) ⟨_, rfl, x, d, D, os, ys, vobs, tA, tB, tC, tu, rfl, rfl, by rw [hfs]; exact hV⟩
      intro p hp
      rw [List.append_nil] at hp
      simp only [List.mem_cons] at hp ⊢
      rcases hp with h | h | h | h
      · exact .inr (.inl h)
      · exact .inr (.inr (.inl h))
      · exact .inl h
      · exact .inr (.inr (.inr h))
    · rintro v l m news hj it h tk hc F N'
      obtain ⟨hself, hl, N, osl, tA, tB, tC, tu, tO, tP, hos, hlen, hsub⟩ := (hJ _ _ _).mp hj
      clear hj
      obtain ⟨nm, d2, tl, hnm, hP, htl⟩ := hl v (List.Mem.head _)
      have hl' : ∀ v ∈ l, ∃ nm dd tl, nm ∈ Names4 ∧ UvPost w nm dd tl v ∧ ∀ p ∈ tl, p ∈ vobs := fun v hv => hl v (.tail _ hv)
      obtain ⟨x2, op, dop, vars, tup, opts, dflt, vn, s1, s2, s3, s4, s5, s6, s7, s8, s9, s10, oO, oD, rfl, rfl, hO, _⟩ := hP
      have N2 := News.sub N' (led := (x2, instObj 265 d2) :: (d2, uvDict w nm op vars dflt s3 s4 s5 s6 s7 s8 (.ref vn)) :: (vn, LCg.lst [.str nm s10]) :: (I, it) :: (osl ++ ((D, LCg.lst ys) :: (x, instObj 391 d) :: (d, tmDict w tA tB tC tu u D os) :: vobs))) (by
        intro p hp
        rcases List.mem_cons.mp hp with rfl | hp
        · exact .tail _ (hsub _ (List.mem_append_right _ (.tail _ (.tail _ (.tail _ (htl _ (by dsimp only [uvLed]; walk_at "mem")))))))
        rcases List.mem_cons.mp hp with rfl | hp
        · exact .tail _ (hsub _ (List.mem_append_right _ (.tail _ (.tail _ (.tail _ (htl _ (by dsimp only [uvLed]; walk_at "mem")))))))
        rcases List.mem_cons.mp hp with rfl | hp
        · exact .tail _ (hsub _ (List.mem_append_right _ (.tail _ (.tail _ (.tail _ (htl _ (by walk_at "mem")))))))
        rcases List.mem_cons.mp hp with rfl | hp
        · exact List.Mem.head _
        exact .tail _ (hsub _ hp))
      have hx2 : @LT.lt Nat _ x2 dos ∧ @LT.lt Nat _ d2 dos ∧ @LT.lt Nat _ vn dos := ⟨hvb _ (htl (x2, instObj 265 d2) (by dsimp only [uvLed]; walk_at "mem")), hvb _ (htl (d2, uvDict w nm op vars dflt s3 s4 s5 s6 s7 s8 (.ref vn)) (by dsimp only [uvLed]; walk_at "mem")), hvb _ (htl (vn, LCg.lst [.str nm s10]) (by walk_at "mem"))⟩
      clear N' hFF hl htl
      rw [mput_self hself] at F
      cases hos with
      | @none t3 t4 t5 om hom2 =>
        simp only [os6, List.cons_append, List.nil_append] at N2
        k_steps
        refine fun I2 l2 => ?_
        have hII2 := ltN (l2 (I, it) (by walk_at "mem"))
        dsimp only at hII2
        refine ListRest.succ ?_
        intro it2 h2 tk2 hc2 F2 N3
        k_steps
        show wpAny _ _ _ _ _ _
        refine Ctr.useM (own := (I2, it2) :: os6 w os dos r dr mp tO tP t3 t4 t5 .none om) (rest := (x2, instObj 265 d2) :: (d2, uvDict w nm op vars dflt s3 s4 s5 s6 s7 s8 (.ref vn)) :: (vn, LCg.lst [.str nm s10]) :: (I, it) :: ((D, LCg.lst ys) :: (x, instObj 391 d) :: (d, tmDict w tA tB tC tu u D os) :: vobs)) (os_add6 w I2 os dos r dr mp it2 tO tP t3 t4 t5 s10 .none om nm hom2 hlo ⟨ho.1, ho.2.1, ho.2.2.1, ho.2.2.2, ltN (l2 (mp, om) (by walk_at "mem"))⟩) (by k_asm) (by k_asm) (by k_asm) (by k_asm) (by k_asm) rfl ?sub ?ne (by k_dflt ktr_room) (by k_dflt ktr_units) ?_
        case sub =>
          ((try dsimp only [os6, os8]); walk_at "sub")
        case ne =>
          intro q hq p2 hp2
          have hq2 : @LE.le Nat _ dos q.1 ∧ @Ne Nat q.1 I := by
            simp only [os6, List.mem_cons, List.not_mem_nil, or_false] at hq
            rcases hq with rfl | rfl | rfl | rfl | rfl | rfl <;> (dsimp only; omega)
          have hp3 : @LT.lt Nat _ p2.1 dos ∨ @Eq Nat p2.1 I := by
            simp only [List.mem_cons] at hp2
            rcases hp2 with rfl | rfl | rfl | rfl | rfl | rfl | rfl | h
            all_goals (first | exact .inl (hvb _ (by assumption)) | (dsimp only; omega))
          refine neN ?_; omega
        rintro r4 news4 h4 tk4 F4 N4 ⟨rfl, p, dp, u1, u2, u3, u4, u5, u6, u7, u8, n4, k4, n5, k5, p5, om4, kvs4, rfl, hom4, hkl4, hlow4, hdp4⟩
        simp only [os8, List.cons_append, List.nil_append] at N4
        k_steps
        replace hlow4 := ltN hlow4
        replace hdp4 := ltN hdp4
        refine ⟨_, _, _, os8 w os dos r dr mp p dp u1 u2 u3 u4 u5 u6 u7 u8 n4 k4 n5 k5 p5 om4 ++ ((x2, instObj 265 d2) :: (d2, uvDict w nm op vars dflt s3 s4 s5 s6 s7 s8 (.ref vn)) :: (vn, LCg.lst [.str nm s10]) :: (I, it) :: ((D, LCg.lst ys) :: (x, instObj 391 d) :: (d, tmDict w tA tB tC tu u D os) :: vobs)), rfl, (by k_asm), (by first | exact N4 | k_asm), ?_, (by walk_at "mem"), ?_⟩
        · intro q hq
          simp only [os8, List.mem_append, List.mem_cons, List.not_mem_nil, or_false] at hq
          rcases hq with (rfl | rfl | rfl | rfl | rfl | rfl | rfl) | rfl | rfl | rfl | rfl | rfl | rfl | rfl | hq
          · exact Nat.ne_of_lt (l2 (os, instObj 117 dos) (by walk_at "mem"))
          · exact News.neOf N4 (.tail _ (.tail _ (List.Mem.head _))) (List.Mem.head _) (by rw [hc2]; intro e; first | (injection e with e; exact absurd e (by decide)) | injection e)
          · exact News.neOf N4 (.tail _ (.tail _ (.tail _ (List.Mem.head _)))) (List.Mem.head _) (by rw [hc2]; intro e; first | (injection e with e; exact absurd e (by decide)) | injection e)
          · exact News.neOf N4 (.tail _ (.tail _ (.tail _ (.tail _ (List.Mem.head _))))) (List.Mem.head _) (by rw [hc2]; intro e; first | (injection e with e; exact absurd e (by decide)) | injection e)
          · exact Nat.ne_of_lt (l2 (mp, om) (by walk_at "mem"))
          · exact News.neOf N4 (.tail _ (.tail _ (.tail _ (.tail _ (.tail _ (.tail _ (List.Mem.head _))))))) (List.Mem.head _) (by rw [hc2]; intro e; first | (injection e with e; exact absurd e (by decide)) | injection e)
          · exact News.neOf N4 (.tail _ (.tail _ (.tail _ (.tail _ (.tail _ (.tail _ (.tail _ (List.Mem.head _)))))))) (List.Mem.head _) (by rw [hc2]; intro e; first | (injection e with e; exact absurd e (by decide)) | injection e)
          · exact Nat.ne_of_lt (l2 (x2, instObj 265 d2) (by walk_at "mem"))
          · exact Nat.ne_of_lt (l2 _ (.tail _ (List.Mem.head _)))
          · exact Nat.ne_of_lt (l2 _ (.tail _ (.tail _ (List.Mem.head _))))
          · exact Nat.ne_of_lt (l2 (I, it) (by walk_at "mem"))
          · exact Nat.ne_of_lt (l2 (D, LCg.lst ys) (by walk_at "mem"))
          · exact Nat.ne_of_lt (l2 (x, instObj 391 d) (by walk_at "mem"))
          · exact Nat.ne_of_lt (l2 (d, tmDict w tA tB tC tu u D os) (by walk_at "mem"))
          · exact Nat.ne_of_lt (l2 q (by walk_at "mem"))
        intro h5 tk5 F5 N5
        k_steps
        refine ⟨_, _, _, os8 w os dos r dr mp p dp u1 u2 u3 u4 u5 u6 u7 u8 n4 k4 n5 k5 p5 om4 ++ ((D, LCg.lst ys) :: (x, instObj 391 d) :: (d, tmDict w tA tB tC tu u D os) :: vobs), rfl, (by k_asm), News.sub N5 ?_, ?_, (by walk_at "mem"), (hJ _ _ _).mpr ⟨rfl, hl', N + 1, _, tA, tB, tC, tu, u1, u2, .some hom4 ?_ ?_ hdp4, ?_, fun p hp => hp⟩⟩
        · intro q hq
          simp only [os8, List.cons_append, List.nil_append, List.mem_cons] at hq ⊢
          grind
        · intro q hq
          simp only [os8, List.cons_append, List.nil_append, List.mem_cons] at hq
          rcases hq with rfl | rfl | rfl | rfl | rfl | rfl | rfl | rfl | rfl | rfl | hq
          all_goals (first | (refine neN ?_; dsimp only; omega) | (have := hvb q hq; refine neN ?_; omega))
        · omega
        · refine ltN ?_; omega
        · simp only [List.length_cons] at hlen; omega
      | @some q9 dq9 t3 t4 t5 t6 t7 t8 n k n' k' p' om kvs hom2 hkl hIp hpp =>
        simp only [os8, List.cons_append, List.nil_append] at N2
        k_steps
        refine fun I2 l2 => ?_
        have hII2 := ltN (l2 (I, it) (by walk_at "mem"))
        dsimp only at hII2
        refine ListRest.succ ?_
        intro it2 h2 tk2 hc2 F2 N3
        k_steps
        show wpAny _ _ _ _ _ _
        refine Ctr.useM (own := (I2, it2) :: os8 w os dos r dr mp q9 dq9 tO tP t3 t4 t5 t6 t7 t8 n k n' k' p' om) (rest := (x2, instObj 265 d2) :: (d2, uvDict w nm op vars dflt s3 s4 s5 s6 s7 s8 (.ref vn)) :: (vn, LCg.lst [.str nm s10]) :: (I, it) :: ((D, LCg.lst ys) :: (x, instObj 391 d) :: (d, tmDict w tA tB tC tu u D os) :: vobs)) (os_add8 w I2 os dos r dr mp q9 dq9 it2 tO tP t3 t4 t5 t6 t7 t8 s10 n k n' k' p' om kvs nm N I hkl (by simp only [List.length_cons] at hlen; omega) hom2 hlo ⟨ho.1, ho.2.1, ho.2.2.1, ho.2.2.2, by omega, hpp, ltN (l2 (q9, instObj 38 dq9) (by walk_at "mem"))⟩ hIp) (by k_asm) (by k_asm) (by k_asm) (by k_asm) (by k_asm) rfl ?sub ?ne (by k_dflt ktr_room) (by k_dflt ktr_units) ?_
        case sub =>
          ((try dsimp only [os6, os8]); walk_at "sub")
        case ne =>
          intro q hq p2 hp2
          have hq2 : @LE.le Nat _ dos q.1 ∧ @Ne Nat q.1 I := by
            simp only [os8, List.mem_cons, List.not_mem_nil, or_false] at hq
            rcases hq with rfl | rfl | rfl | rfl | rfl | rfl | rfl | rfl <;> (dsimp only; omega)
          have hp3 : @LT.lt Nat _ p2.1 dos ∨ @Eq Nat p2.1 I := by
            simp only [List.mem_cons] at hp2
            rcases hp2 with rfl | rfl | rfl | rfl | rfl | rfl | rfl | h
            all_goals (first | exact .inl (hvb _ (by assumption)) | (dsimp only; omega))
          refine neN ?_; omega
        rintro r4 news4 h4 tk4 F4 N4 ⟨rfl, p, dp, u1, u2, u3, u4, u5, u6, u7, u8, n4, k4, n5, k5, p5, om4, kvs4, rfl, hom4, hkl4, hlow4, hdp4⟩
        simp only [os8, List.cons_append, List.nil_append] at N4
        k_steps
        replace hlow4 := ltN hlow4
        replace hdp4 := ltN hdp4
        refine ⟨_, _, _, os8 w os dos r dr mp p dp u1 u2 u3 u4 u5 u6 u7 u8 n4 k4 n5 k5 p5 om4 ++ ((x2, instObj 265 d2) :: (d2, uvDict w nm op vars dflt s3 s4 s5 s6 s7 s8 (.ref vn)) :: (vn, LCg.lst [.str nm s10]) :: (I, it) :: ((D, LCg.lst ys) :: (x, instObj 391 d) :: (d, tmDict w tA tB tC tu u D os) :: vobs)), rfl, (by k_asm), (by first | exact N4 | k_asm), ?_, (by walk_at "mem"), ?_⟩
        · intro q hq
          simp only [os8, List.mem_append, List.mem_cons, List.not_mem_nil, or_false] at hq
          rcases hq with (rfl | rfl | rfl | rfl | rfl | rfl | rfl) | rfl | rfl | rfl | rfl | rfl | rfl | rfl | hq
          · exact Nat.ne_of_lt (l2 (os, instObj 117 dos) (by walk_at "mem"))
          · exact News.neOf N4 (.tail _ (.tail _ (List.Mem.head _))) (List.Mem.head _) (by rw [hc2]; intro e; first | (injection e with e; exact absurd e (by decide)) | injection e)
          · exact News.neOf N4 (.tail _ (.tail _ (.tail _ (List.Mem.head _)))) (List.Mem.head _) (by rw [hc2]; intro e; first | (injection e with e; exact absurd e (by decide)) | injection e)
          · exact News.neOf N4 (.tail _ (.tail _ (.tail _ (.tail _ (List.Mem.head _))))) (List.Mem.head _) (by rw [hc2]; intro e; first | (injection e with e; exact absurd e (by decide)) | injection e)
          · exact Nat.ne_of_lt (l2 (mp, om) (by walk_at "mem"))
          · exact News.neOf N4 (.tail _ (.tail _ (.tail _ (.tail _ (.tail _ (.tail _ (List.Mem.head _))))))) (List.Mem.head _) (by rw [hc2]; intro e; first | (injection e with e; exact absurd e (by decide)) | injection e)
          · exact News.neOf N4 (.tail _ (.tail _ (.tail _ (.tail _ (.tail _ (.tail _ (.tail _ (List.Mem.head _)))))))) (List.Mem.head _) (by rw [hc2]; intro e; first | (injection e with e; exact absurd e (by decide)) | injection e)
          · exact Nat.ne_of_lt (l2 (x2, instObj 265 d2) (by walk_at "mem"))
          · exact Nat.ne_of_lt (l2 _ (.tail _ (List.Mem.head _)))
          · exact Nat.ne_of_lt (l2 _ (.tail _ (.tail _ (List.Mem.head _))))
          · exact Nat.ne_of_lt (l2 (I, it) (by walk_at "mem"))
          · exact Nat.ne_of_lt (l2 (D, LCg.lst ys) (by walk_at "mem"))
          · exact Nat.ne_of_lt (l2 (x, instObj 391 d) (by walk_at "mem"))
          · exact Nat.ne_of_lt (l2 (d, tmDict w tA tB tC tu u D os) (by walk_at "mem"))
          · exact Nat.ne_of_lt (l2 q (by walk_at "mem"))
        intro h5 tk5 F5 N5
        k_steps
        refine ⟨_, _, _, os8 w os dos r dr mp p dp u1 u2 u3 u4 u5 u6 u7 u8 n4 k4 n5 k5 p5 om4 ++ ((D, LCg.lst ys) :: (x, instObj 391 d) :: (d, tmDict w tA tB tC tu u D os) :: vobs), rfl, (by k_asm), News.sub N5 ?_, ?_, (by walk_at "mem"), (hJ _ _ _).mpr ⟨rfl, hl', N + 1, _, tA, tB, tC, tu, u1, u2, .some hom4 ?_ ?_ hdp4, ?_, fun p hp => hp⟩⟩
        · intro q hq
          simp only [os8, List.cons_append, List.nil_append, List.mem_cons] at hq ⊢
          grind
        · intro q hq
          simp only [os8, List.cons_append, List.nil_append, List.mem_cons] at hq
          rcases hq with rfl | rfl | rfl | rfl | rfl | rfl | rfl | rfl | rfl | rfl | hq
          all_goals (first | (refine neN ?_; dsimp only; omega) | (have := hvb q hq; refine neN ?_; omega))
        · omega
        · refine ltN ?_; omega
        · simp only [List.length_cons] at hlen; omega
    · have hyl' : ys.toArray.toList.length ≤ 1000 := by rw [List.toList_toArray]; exact hyl
      refine (hJ _ _ _).mpr ⟨rfl, ?_, os_start hom hyl'⟩
      rw [List.toList_toArray]
      exact fun v hv => hV.block v hv
end
end

section
open PySem PySem.W PyProof.Rows PySem.Spec PySem.Calls PyProof.V
section
theorem rows18 : True := by
  k_with_none
  k_with "compareOp In str str" => (k_here; first | refine in_strD (b := true) (by decide +kernel) ?_ | refine in_strD (b := false) (by decide +kernel) ?_)
  k_with "exec Assign cons ListComp" => (k_here; (with_reducible show wpAny _ _ (exec (Stmt.Assign [Expr.Attribute _ _ _] _ _) _) _ _ _); with_reducible refine plainObj_wpAny_Assign_Attribute ?_ ?_; rotate_left; with_unfolding_all rfl)
  k_with "exec For Tuple Attribute cons nil" => (k_here; (rename Fr _ _ _ _ => lF'); (with_unfolding_all refine' For_turns lF' ?_; k_whole))
  k_with "call builtin:dict.get" => (k_here; k_dflt (refine kdg_get2 (knd := PySem.strKind _ _) (by k_asm) (by k_mem) (by k_asm) (by assumption) (strKind_is _ _ _ _) _ (by assumption) ?_); (try dsimp only [Option.getD]))
  k_with "truthy str" => (k_here; refine truthy_strT (by omega) ?_)
  k_with "subscriptTail" => (k_here; k_dflt ((with_reducible show wpAny _ _ (subscriptTail _ _ (Value.ref _) (Value.str _ _)) _ _ _); refine kdt_tail (knd := PySem.strKind _ _) (by k_asm) (by k_mem) (by k_asm) ?_))
  k_with "getItem ref str" => (k_here; k_dflt (refine kdt_getItem (knd := PySem.strKind _ _) (by k_asm) (by k_mem) (by k_asm) (strKind_is _ _ _ _) (by first | assumption | rfl) ?_))
  k_with "mem" => (repeat (first | exact List.Mem.head _ | assumption | refine List.Mem.tail _ ?_))
  k_with "sub" => ((try dsimp only [List.cons_append, List.nil_append]); (repeat (refine List.forall_mem_cons.mpr ⟨by walk_at "mem", ?_⟩)); first | (intro p hp; walk_at "mem"; done) | exact fun _ h => (List.not_mem_nil h).elim)
  k_with "call ref" => (k_here; (with_reducible show wpAny _ _ (call (Value.ref 325) _) _ _ _); k_dflt (refine exprs_use (by assumption) (by k_asm) (by k_asm) (by k_asm) (by k_asm) (by k_asm) (by first | exact rfl | assumption) (by ktr_room) (by ktr_units)  ?_); intro la vs9 ts h'q tk'q F'q N'q hT hl'q; (try k_sweep))
  trivial
variable {w : World} {led : Led} {mean : ExcName → Option Value} {mg mb : PySem.Str → Option Value} {dp un : Nat} {gd : Option (List Code)} {cn : PySem.Str} {cs : Scope} {a : Addr} {ccd : Value} {cl : List (PySem.Str × Addr)} {outer : List Env} {A₀ : Around} {base h₀ : Heap} {L : Addr} {m : PySem.Str → Option Value} {s : Shared} {Q E : Value → Shared → Prop}
/-- the object that a contract is told of besides -/
def Marked (_ : Addr) (_ : Obj) : Prop := True
theorem v_expand_use2 {e0 : Addr} {oe0 : Obj} {x d op dop vars tup opts dflt D : Addr} {t1 t2 t3 t4 t5 t6 t7 t8 t9 : Tok} {vn : Value} {oO oD o : Obj} {kvs : List (PySem.Str × Value)} {nm : PySem.Str}
   (hg : GoodD kvs) (hd : Obj.IsDictOf (PySem.strKind MProg w) o kvs) (_mk : Marked e0 oe0) (hO : UvOk w oO oD opts dflt) (hlo : (D == sysModules) = false) (hnm : 0 < nm.length ∧ nm.length ≤ 4) (B : Below A₀ base outer h₀) (F : Fr h₀ L s.heap m) (X : (Mine.KF w.params).In h₀) (N : News h₀ L s.heap led) (T : Top Mine.vw LS mean mg mb h₀) (hk : cs.kind = .function) (hdp : dp + 150 < recursionLimit) (hun : un + 10 * 150 < cLine)
   (hsub : ∀ p ∈ ((D, o) :: (e0, oe0) :: uvLed w nm x d op dop vars tup opts dflt t1 t2 t3 t4 t5 t6 t7 t8 t9 vn oO oD), p ∈ led)
   (hret : ∀ R o' t h' tk', Fr h₀ L h' m → News h₀ L h' ((R, o') :: led) → (@LT.lt Nat _ e0 R ∧ @LT.lt Nat _ D R) → (R == sysModules) = false → o'.IsDictOf (PySem.strKind MProg w) [(nm, .str (due kvs nm) t)] → Q (.ref R) { s with heap := h', toks := tk' }) :
   wpAny (model MProg w) (ktrTop dp un gd cn cs L a ccd cl outer) (call (.ref 262) [.ref x, .ref D]) Q E s :=
  v_expand_use hO hd hlo hnm hg B F X N T hk hdp hun hsub fun R o' t h' tk' F' N' hl h1 h2 => hret R o' t h' tk' F' N' ⟨hl _ (.tail _ (.head _)), hl _ (.head _)⟩ h1 h2
theorem rows19 : True := by
  k_with "call ref" => (k_here; (with_reducible show wpAny _ _ (call (Value.ref 262) _) _ _ _); k_dflt (refine v_expand_use2 (by assumption) (by assumption) (by assumption) (by assumption) (by assumption) (by assumption) (by k_asm) (by k_asm) (by k_asm) (by k_asm) (by k_asm) (by first | exact rfl | assumption) (by ktr_room) (by ktr_units) (by lcg_sub) ?_); intro R'q o'q t'q h'q tk'q F'q N'q hl'q hlo'q hd'q; (try k_sweep))
  trivial
local macro_rules | `(tactic| k_all) => `(tactic| with_reducible assumption)
theorem rows20 : True := by
  k_with "exec For Name Attribute cons nil" => (k_here; (rename Fr _ _ _ _ => lF'q); (with_unfolding_all refine For_invVF lF'q (by exact rfl) (by exact rfl) ?_; k_whole))
  k_with "exec For Tuple Call cons nil" => (k_here; (rename Fr _ _ _ _ => lF'q); (with_unfolding_all refine' For_turns lF'q ?_; k_whole))
  k_with "pyIter ref" => (k_here; (rename Fr _ _ _ _ => lF'q); (rename News _ _ _ _ => lN'q); (first | (with_unfolding_all refine iter_listH (by rfl) lF'q lN'q (by k_mem) (by rfl) (by rfl) ?_) | (with_unfolding_all refine iter_listTH (by rfl) lF'q lN'q (by k_mem) (by rfl) (by rfl) ?_)); clear lF'q lN'q)
  trivial
local macro_rules | `(tactic| walk_at "getMethod ref") => `(tactic| (k_here; k_dflt (first
  | (with_reducible show wpAny _ _ (getMethod _ (PySem.Str.ofString "update") _) _ _ _); refine dx_method (knd := PySem.strKind _ _) PySem.F.slot_dict_update PySem.F.type_dict_update (by k_asm) (by k_mem) (by k_asm) ?_)))
theorem rows21 : True := by
  k_with "call builtin:dict.update" => (k_here; k_dflt (refine dx_update (knd := PySem.strKind _ _) (by k_asm) (by k_asm) (by k_updF) (by k_asm) (by k_mem) (by k_asm) (by k_ne) (by assumption) (by (simp only [List.length_cons, List.length_nil]; omega)) ?_); intro h'q o'q F'q N'q hd'q; (try dsimp only at N'q))
  k_with "truthy ref" => (k_here; k_dflt (refine kgr_truthy (by k_asm) (by k_mem) (by rfl) (by rfl) (by omega) ?_); (try dsimp only [List.isEmpty, Bool.not_false]))
  k_with "call builtin:list.append" => (k_here; (with_reducible show wpAny _ _ (call (Value.builtin _) [Value.ref _, _]) _ _ _); k_dflt (refine append_K (by k_asm) (by k_asm) (by k_upd) ?_ (by (rw [sizeLine_eq]; simp only [List.size_toArray, List.length_cons, Array.size_push] at *; omega)); k_whole); intro h'q F'q N'q; (try k_sweep))
  k_with "call builtin:dict.get" => (k_here; k_dflt (first | refine kdg_get1 (knd := PySem.strKind _ _) (by k_asm) (by k_mem) (by assumption) (by assumption) (strKind_is _ _ _ _) _ (by assumption) ?_ | refine kdg_get2 (knd := PySem.strKind _ _) (by k_asm) (by k_mem) (by assumption) (by assumption) (strKind_is _ _ _ _) _ (by assumption) ?_); (try dsimp only [Option.getD]))
  k_with "binaryOp Mod str str" => (k_here; (with_reducible show wpAny _ _ (binaryOp Operator.Mod (Value.str _ _) (Value.str _ _)) _ _ _); (refine KPc.mod_str (by kpc_eq) (by omega) (by k_dflt kpc_run_s) ?_); intro _ _)
  trivial
abbrev tmLed (w : World) (u : PySem.Str) (x d D os : Addr) (ys : List Value) (vobs : Led) (tA tB tC tu : Tok) : Led := (x, instObj 391 d) :: (d, tmDict w tA tB tC tu u D os) :: (D, LCg.lst ys) :: vobs
/-- what stands for a name -/
def pc (kvs : List (PySem.Str × Value)) (rep : Bool) (z : PySem.Str) : PySem.Str := if rep then (if due kvs z = PySem.Str.ofString "" then PySem.Str.ofString "{" ++ z ++ PySem.Str.ofString "}" else due kvs z) else due kvs z
def expParts (u : PySem.Str) (g : PySem.Str → PySem.Str) : Int → List (Int × Int × PySem.Str) → List PySem.Str
  | p, [] => [Txt.slice u (some p) none]
  | p, (a, b, z) :: r => Txt.slice u (some p) (some a) :: g z :: expParts u g b r
theorem Vobs.len {w : World} {vs ns led} (h : Vobs w vs ns led) : vs.length = ns.length := by
  induction h with
  | nil => rfl
  | snoc _ _ _ _ _ _ _ ih => simp [ih]
/-- a variable's own objects within what stands -/
def Blk (w : World) (vobs : Led) (v : Value) (nm : PySem.Str) : Prop := ∃ dd tl, nm ∈ Names4 ∧ UvPost w nm dd tl v ∧ ∀ p ∈ tl, p ∈ vobs
inductive Blks (w : World) (vobs : Led) : List Value → List PySem.Str → Prop
  | nil : Blks w vobs [] []
  | cons {v nm vs ns} : Blk w vobs v nm → Blks w vobs vs ns → Blks w vobs (v :: vs) (nm :: ns)
theorem Blks.snoc {w : World} {vobs : Led} {vs ns v nm} (h : Blks w vobs vs ns) (hb : Blk w vobs v nm) : Blks w vobs (vs ++ [v]) (ns ++ [nm]) := by
  induction h with
  | nil => exact .cons hb .nil
  | cons a _ ih => exact .cons a ih
theorem Blks.up {w : World} {vobs vobs' : Led} {vs ns} (h : Blks w vobs vs ns) (hs : ∀ p ∈ vobs, p ∈ vobs') : Blks w vobs' vs ns := by
  induction h with
  | nil => exact .nil
  | cons a _ ih => obtain ⟨dd, tl, h1, h2, h3⟩ := a; exact .cons ⟨dd, tl, h1, h2, fun p hp => hs p (h3 p hp)⟩ ih
theorem Vobs.blks {w : World} {vs ns led} (h : Vobs w vs ns led) : Blks w led vs ns := by
  induction h with
  | nil => exact .nil
  | snoc nm d tl r hn hP _ ih => exact (ih.up fun p hp => List.mem_append_right _ hp).snoc ⟨d, tl, hn, hP, fun p hp => List.mem_append_left _ hp⟩
theorem names4_len : ∀ nm ∈ Names4, 0 < nm.length ∧ nm.length ≤ 4 := by decide
/-- what is left of the tuples -/
inductive TpL (tail : Led) : List Value → List (Int × Int × PySem.Str) → Prop
  | nil : TpL tail [] []
  | cons {vs fs} (T : Addr) (a b : Int) (z : PySem.Str) (t1 t2 t3 : Tok) : (T, ({ cls := .type "tuple", data := .seq #[.int a t1, .int b t2, .str z t3] } : Obj)) ∈ tail → TpL tail vs fs → TpL tail (.ref T :: vs) ((a, b, z) :: fs)
theorem TpL.snoc {tail : Led} {vs fs} (h : TpL tail vs fs) (T : Addr) (a b : Int) (z : PySem.Str) (t1 t2 t3 : Tok) (hm : (T, ({ cls := .type "tuple", data := .seq #[.int a t1, .int b t2, .str z t3] } : Obj)) ∈ tail) : TpL tail (vs ++ [.ref T]) (fs ++ [(a, b, z)]) := by
  induction h with
  | nil => exact .cons T a b z t1 t2 t3 hm .nil
  | cons T' a' b' z' s1 s2 s3 h' _ ih => exact .cons T' a' b' z' s1 s2 s3 h' ih
theorem TpL.up {tail tail' : Led} {vs fs} (h : TpL tail vs fs) (hs : ∀ p ∈ tail, p ∈ tail') : TpL tail' vs fs := by
  induction h with
  | nil => exact .nil
  | cons T' a' b' z' s1 s2 s3 h' _ ih => exact .cons T' a' b' z' s1 s2 s3 (hs _ h') ih
theorem Tps.tpL {vs fs ts} (h : Tps vs fs ts) : TpL ts vs fs := by
  induction h with
  | nil => exact .nil
  | snoc T a b z t1 t2 t3 _ ih => exact (ih.up fun p hp => List.mem_cons_of_mem _ hp).snoc T a b z t1 t2 t3 (List.Mem.head _)
theorem Tps.cls {vs fs ts} (h : Tps vs fs ts) : ∀ p ∈ ts, p.2.cls = .type "tuple" := by
  induction h with
  | nil => intro p hp; cases hp
  | snoc T a b z t1 t2 t3 _ ih =>
    intro p hp
    rcases List.mem_cons.mp hp with rfl | hp
    · rfl
    · exact ih p hp
theorem due_cases {kvs : List (PySem.Str × Value)} (hg : GoodD kvs) (z : PySem.Str) : due kvs z = PySem.Str.ofString "" ∨ due kvs z ∈ V15 := by
  unfold due
  cases h : valueAt kvs z with
  | none => exact .inl rfl
  | some v =>
    rcases hg z v h with rfl | ⟨y, t, rfl, hy⟩
    · exact .inl rfl
    · exact .inr hy
theorem News.neObj {h₀ h : Heap} {L : Addr} {led : Led} (N : News h₀ L h led) {a b : Addr} {o o' : Obj} (h1 : (a, o) ∈ led) (h2 : (b, o') ∈ led) (hne : o ≠ o') : a ≠ b := by
  rintro rfl
  have e1 := (N _ h1).1
  have e2 := (N _ h2).1
  dsimp only at e1 e2
  rw [e1] at e2
  exact hne (Option.some.inj e2)
theorem two_more {h₀ h : Heap} {L I2 T Pa : Addr} {it tp : Obj} {rest : Led} {psv : List Value} {pre : List PySem.Str} {s1 s2 : PySem.Str} {ta tb : Tok} (hps : StrsAre psv pre)
   (N : News h₀ L h ((I2, it) :: (T, tp) :: (Pa, W.listOf ((psv.toArray.push (.str s1 ta)).push (.str s2 tb)) (psv.length + 1 + 1)) :: rest)) :
   ∃ psv2, StrsAre psv2 (pre ++ [s1, s2]) ∧ News h₀ L h ((I2, it) :: (Pa, W.listOf psv2.toArray psv2.length) :: rest) := by
  refine ⟨psv ++ [.str s1 ta] ++ [.str s2 tb], ?_, ?_⟩
  · have := strsAre_snoc (strsAre_snoc hps s1 ta) s2 tb
    rwa [List.append_assoc pre] at this
  · have e : W.listOf ((psv.toArray.push (.str s1 ta)).push (.str s2 tb)) (psv.length + 1 + 1) = W.listOf (psv ++ [Value.str s1 ta] ++ [Value.str s2 tb]).toArray (psv ++ [Value.str s1 ta] ++ [Value.str s2 tb]).length := by simp
    rw [e] at N
    exact News.sub N (fun p hp => by
      rcases List.mem_cons.mp hp with rfl | hp
      · exact List.Mem.head _
      · exact .tail _ (.tail _ hp))
theorem Vobs.names {w : World} {vs ns led} (h : Vobs w vs ns led) : ∀ nm ∈ ns, nm ∈ Names4 := by
  induction h with
  | nil => intro _ h; cases h
  | snoc nm _ _ _ hn _ _ ih =>
    intro n2 h
    rcases List.mem_append.mp h with h | h
    · exact ih n2 h
    · rw [List.mem_singleton.mp h]; exact hn
theorem strs_sum : ∀ {pre : List PySem.Str}, (∀ z ∈ pre, z.length ≤ 1000) → (pre.map (·.length)).sum ≤ 1000 * pre.length
  | [], _ => Nat.zero_le _
  | z :: r, h => by
    have h1 := strs_sum fun y hy => h y (List.mem_cons_of_mem _ hy)
    have h2 := h z (List.Mem.head _)
    simp only [List.map_cons, List.sum_cons, List.length_cons]
    omega
theorem exp_step {u : PySem.Str} {g : PySem.Str → PySem.Str} {pre : List PySem.Str} {place a9 b9 : Int} {z v : PySem.Str} {fr : List (Int × Int × PySem.Str)} {X : List PySem.Str} (hexp : pre ++ expParts u g place ((a9, b9, z) :: fr) = X) (hv : g z = v) : (pre ++ [Txt.slice u (some place) (some a9), v]) ++ expParts u g b9 fr = X := by
  rw [← hexp]
  simp only [expParts, List.append_assoc, List.cons_append, List.nil_append, hv]
theorem pre_len {pre : List PySem.Str} {n : Nat} {s1 s2 : PySem.Str} (h : pre.length + 2 * (n + 1) ≤ 600) : (pre ++ [s1, s2]).length + 2 * n ≤ 600 := by
  simp only [List.length_append, List.length_cons, List.length_nil]; omega
theorem pre_all {pre : List PySem.Str} {s1 s2 : PySem.Str} (h : ∀ z ∈ pre, z.length ≤ 1000) (h1 : s1.length ≤ 1000) (h2 : s2.length ≤ 1000) : ∀ z ∈ pre ++ [s1, s2], z.length ≤ 1000 := by
  intro s9 hs9
  simp only [List.mem_append, List.mem_cons, List.not_mem_nil, or_false] at hs9
  rcases hs9 with hs9 | rfl | rfl
  · exact h s9 hs9
  · exact h1
  · exact h2
theorem ex_spec (w : World) (u : PySem.Str) (x d D os D2 : Addr) (y0 : Value) (ys : List Value) (vobs : Led) (tA tB tC tu : Tok) (o : Obj) (kvs : List (PySem.Str × Value)) (rep : Bool) (hu : u.length ≤ 1000) (hfl : (exScan u 0 u.cps.toList (none, [])).2.length ≤ 300)
   (hV : Vobs w (y0 :: ys) ((exScan u 0 u.cps.toList (none, [])).2.map (·.2.2)) vobs) (hd : o.IsDictOf (PySem.strKind MProg w) kvs) (hlo : (D2 == sysModules) = false) (hg : GoodD kvs) :
   Ctr 300 w 372 [.ref x, .ref D2, .bool rep] ((D2, o) :: tmLed w u x d D os (y0 :: ys) vobs tA tB tC tu)
     (RPost ((D2, o) :: tmLed w u x d D os (y0 :: ys) vobs tA tB tC tu) fun tl r => tl = [] ∧ ∃ t, r = .str (Txt.join (PySem.Str.ofString "") (expParts u (pc kvs rep) 0 (exScan u 0 u.cps.toList (none, [])).2)) t) := by
  intro mean mg mb dp un gd cn cs a ccd cl outer A₀ base h₀ L m rest s Q E B F X N hne T hk hdp hun hret
  refine wpAny_call ?_
  k_dflt ktr_enter
  clear N hne F
  have hyl : (y0 :: ys).length ≤ 1000 := by rw [hV.len, List.length_map]; omega
  rename News _ _ _ _ => N1
  simp only [tmLed] at N1
  k_steps
  refine fun I l1 => ?_
  rename_i Ea _ oE0 hloE hE0 _ _ _ hlt _
  generalize hfs : (exScan u 0 u.cps.toList (none, [])).2 = fs at *
  have hvb : ∀ p ∈ vobs, @LT.lt Nat _ p.1 Ea := allLt_mem hlt.2.2.2.2
  have hb : @LT.lt Nat _ D2 Ea ∧ @LT.lt Nat _ x Ea ∧ @LT.lt Nat _ d Ea ∧ @LT.lt Nat _ D Ea := ⟨hlt.1, hlt.2.1, hlt.2.2.1, hlt.2.2.2.1⟩
  have hEI := ltN (l1 (Ea, oE0) (by simp))
  dsimp only at hEI
  have hoff : ∀ p ∈ vobs, p.1 ≠ Ea := fun p hp => Nat.ne_of_lt (hvb p hp)
  obtain ⟨J1, hJ1⟩ : ∃ J : List Value → (PySem.Str → Option Value) → Led → Prop, ∀ l m news, J l m news ↔ (m (PySem.Str.ofString "self") = some (.ref x) ∧ m (PySem.Str.ofString "replace") = some (.bool rep) ∧ m (PySem.Str.ofString "expansion") = some (.ref D2) ∧ m (PySem.Str.ofString "expanded") = some (.ref Ea) ∧
     ∃ oE kvE nl, news = (Ea, oE) :: (D2, o) :: (x, instObj 391 d) :: (d, tmDict w tA tB tC tu u D os) :: (D, LCg.lst (y0 :: ys)) :: vobs ∧ oE.IsDictOf (PySem.strKind MProg w) kvE ∧ Blks w vobs l nl ∧ (∀ nm ∈ fs.map (·.2.2), (∃ t, valueAt kvE nm = some (.str (due kvs nm) t)) ∨ nm ∈ nl) ∧ kvE.length + l.length ≤ 1000) := ⟨_, fun _ _ _ => Iff.rfl⟩
  refine list_ind J1 ?_ ?_ _ _ _ ?_
  · rintro m news hj h tk F N
    obtain ⟨hm1, hm2, hm3, hm4, oE, kvE, nl, rfl, hE, hbl, hval, hlen⟩ := (hJ1 _ _ _).mp hj
    clear hj
    cases hbl
    have hval2 : ∀ nm ∈ fs.map (·.2.2), ∃ t, valueAt kvE nm = some (.str (due kvs nm) t) := fun nm hn => (hval nm hn).elim id fun h => nomatch h
    rw [mput_self hm1, mput_self hm2, mput_self hm3, mput_self hm4] at F
    k_steps
    refine fun I2 hNN l2 => ?_
    rename_i Pa _ _ _ hlP _ _
    rw [hfs] at hT
    have hT9 := hT.cls
    have hv9 : vs9.length = ys.length + 1 := by
      have h1 := hT.len; have h2 := hV.len; rw [List.length_map] at h2; simp only [List.length_cons] at h2; omega
    have hlaP : la ≠ Pa := News.neObj hNN (o := W.listOf vs9.toArray vs9.length) (o' := W.listOf #[] 0) (List.Mem.head _) (.tail _ (List.mem_append_right _ (List.Mem.head _))) (by
      intro e
      have e2 : Data.seq vs9.toArray vs9.length = Data.seq #[] 0 := congrArg Obj.data e
      injection e2 with e3 _
      have := congrArg Array.size e3
      simp at this
      rw [this] at hv9; simp at hv9)
    have htsP : ∀ p ∈ ts, p.1 ≠ Pa := fun p hp => News.neOf hNN (o := p.2) (.tail _ (List.mem_append_left _ hp)) (.tail _ (List.mem_append_right _ (List.Mem.head _))) (by rw [hT9 p hp]; intro e; injection e with e; exact absurd e (by decide))
    generalize htl : ts ++ vobs = tail
    have htP : ∀ p ∈ tail, p.1 ≠ Pa := by
      rw [← htl]
      intro p hp
      rcases List.mem_append.mp hp with hp | hp
      · exact htsP p hp
      · exact Nat.ne_of_lt (allLt_mem hlP.2.2.2.2.2 p hp)
    have htI : ∀ p ∈ tail, @LT.lt Nat _ p.1 I2 := by
      rw [← htl]
      intro p hp
      rcases List.mem_append.mp hp with hp | hp
      · exact l2 p (.tail _ (List.mem_append_left _ hp))
      · exact l2 p (.tail _ (List.mem_append_right _ (by simp [hp])))
    have hTL : TpL tail vs9 fs := hT.tpL.up fun p hp => htl ▸ List.mem_append_left _ hp
    have hPI : @LT.lt Nat _ Pa I2 := l2 (Pa, _) (.tail _ (List.mem_append_right _ (List.Mem.head _)))
    have hlI : @LT.lt Nat _ la I2 := l2 (la, _) (List.Mem.head _)
    have hbP : @LT.lt Nat _ Ea Pa ∧ @LT.lt Nat _ D2 Pa ∧ @LT.lt Nat _ x Pa ∧ @LT.lt Nat _ d Pa ∧ @LT.lt Nat _ D Pa := ⟨hlP.1, hlP.2.1, hlP.2.2.1, hlP.2.2.2.1, hlP.2.2.2.2.1⟩
    obtain ⟨J2, hJ2⟩ : ∃ J : List Value → (PySem.Str → Option Value) → Led → Prop, ∀ l m news, J l m news ↔ (m (PySem.Str.ofString "self") = some (.ref x) ∧ m (PySem.Str.ofString "replace") = some (.bool rep) ∧ m (PySem.Str.ofString "expanded") = some (.ref Ea) ∧ m (PySem.Str.ofString "parts") = some (.ref Pa) ∧
      ∃ fr psv pre place tp, m (PySem.Str.ofString "place") = some (.int place tp) ∧ TpL tail l fr ∧ (∀ p ∈ (Pa, W.listOf psv.toArray psv.length) :: (la, W.listOf vs9.toArray vs9.length) :: (Ea, oE) :: (D2, o) :: (x, instObj 391 d) :: (d, tmDict w tA tB tC tu u D os) :: (D, LCg.lst (y0 :: ys)) :: tail, p ∈ news) ∧ StrsAre psv pre ∧
        pre ++ expParts u (pc kvs rep) place fr = expParts u (pc kvs rep) 0 fs ∧ pre.length + 2 * fr.length ≤ 600 ∧ (∀ q ∈ fr, q ∈ fs) ∧ (∀ z ∈ pre, z.length ≤ 1000)) := ⟨_, fun _ _ _ => Iff.rfl⟩
    refine turns_ind J2 ?_ ?_ _ _ _ ?_
    · rintro m news hj h tk F N
      obtain ⟨hm1, hm2, hm3, hm4, fr, psv, pre, place, tp, hm5, hTL2, hsub, hps, hexp, hlen2, hin, hpre⟩ := (hJ2 _ _ _).mp hj
      clear hj
      cases hTL2
      have N2 := News.sub N hsub
      clear N hNN
      have hpl := strsAre_len hps
      simp only [List.length_nil] at hlen2
      rw [mput_self hm1, mput_self hm2, mput_self hm3, mput_self hm4, mput_self hm5] at F
      k_steps
      rename News _ _ _ _ => hN3
      have hps2 := strsAre_snoc hps (Txt.slice u (some place) none)
      rw [listOf_snoc] at hN3
      refine join_listW (by is_list) (hps2 _) (by decide) ?_ ?_
      · have h1 := strs_sum hpre
        have h2 := Txt.slice_le u (some place) none
        simp only [List.map_append, List.map_cons, List.map_nil, List.sum_append, List.sum_cons, List.sum_nil, List.length_append, List.length_cons, List.length_nil] at hlen2 ⊢
        omega
      intro t9 k9
      have e9 : pre ++ [Txt.slice u (some place) none] = expParts u (pc kvs rep) 0 fs := hexp
      rw [e9]
      k_steps
      rename News _ _ _ rest => hR
      revert hR
      rename News h₀ L _ _ => hN4
      intro hR
      refine hret _ ([] ++ ((D2, o) :: tmLed w u x d D os (y0 :: ys) vobs tA tB tC tu)) _ _ (by k_asm) (news_join hN4 hR ?_) ⟨[], rfl, rfl, _, rfl⟩
      intro p hp
      rw [← htl]
      simp only [tmLed, List.mem_cons, List.mem_append, List.nil_append] at hp ⊢
      grind
    · rintro v l m news hj it h tk hc F N
      obtain ⟨hm1, hm2, hm3, hm4, fr, psv, pre, place, tp, hm5, hTL2, hsub, hps, hexp, hlen2, hin, hpre⟩ := (hJ2 _ _ _).mp hj
      clear hj
      cases hTL2 with
      | @cons _ fr T a9 b9 z t1 t2 t3 hmem hTL3 =>
      have hz := hin _ (List.Mem.head _)
      have hz4 := names4_len z (hV.names z (List.mem_map.mpr ⟨_, hz, rfl⟩))
      obtain ⟨tz, hvz⟩ := hval2 z (List.mem_map.mpr ⟨_, hz, rfl⟩)
      have hTP := htP _ hmem
      have hTI := htI _ hmem
      dsimp only at hTP hTI
      have N2 := News.sub N (led := (I2, it) :: (T, { cls := .type "tuple", data := .seq #[.int a9 t1, .int b9 t2, .str z t3] }) :: (Pa, W.listOf psv.toArray psv.length) :: (la, W.listOf vs9.toArray vs9.length) :: (Ea, oE) :: (D2, o) :: (x, instObj 391 d) :: (d, tmDict w tA tB tC tu u D os) :: (D, LCg.lst (y0 :: ys)) :: tail) (by
        intro p hp
        rcases List.mem_cons.mp hp with rfl | hp
        · exact List.Mem.head _
        · rcases List.mem_cons.mp hp with rfl | hp
          · exact .tail _ (hsub _ (by simp [hmem]))
          · exact .tail _ (hsub _ hp))
      clear N hNN
      have hpl := strsAre_len hps
      simp only [List.length_cons] at hlen2
      rw [mput_self hm1, mput_self hm2, mput_self hm3, mput_self hm4, mput_self hm5] at F
      have hoffA : ∀ oo : Obj, ∀ p ∈ ((Pa, oo) :: (la, W.listOf vs9.toArray vs9.length) :: (Ea, oE) :: (D2, o) :: (x, instObj 391 d) :: (d, tmDict w tA tB tC tu u D os) :: (D, LCg.lst (y0 :: ys)) :: tail : Led), p.1 ≠ I2 := by
        intro oo p hp
        simp only [List.mem_cons] at hp
        rcases hp with rfl | rfl | rfl | rfl | rfl | rfl | rfl | hp
        all_goals (first | exact Nat.ne_of_lt (htI _ (by assumption)) | (refine neN ?_; dsimp only; omega))
      cases rep with
      | false =>
        have hpc : pc kvs false z = due kvs z := by simp [pc]
        have hp6 : (due kvs z).length ≤ 1000 := by
          rcases due_cases hg z with e | e
          · rw [e]; decide
          · have := v15_lens _ e; omega
        k_steps
        rename News _ _ _ _ => hN3
        obtain ⟨psv2, hps2, hN4⟩ := two_more hps hN3
        refine ⟨_, _, _, (Pa, W.listOf psv2.toArray psv2.length) :: (la, W.listOf vs9.toArray vs9.length) :: (Ea, oE) :: (D2, o) :: (x, instObj 391 d) :: (d, tmDict w tA tB tC tu u D os) :: (D, LCg.lst (y0 :: ys)) :: tail, rfl, (by k_asm), hN4, ?_, (by walk_at "mem"), (hJ2 _ _ _).mpr ⟨rfl, rfl, rfl, rfl, fr, psv2, _, b9, _, rfl, hTL3, fun p hp => hp, hps2, ?_, ?_, fun q hq => hin q (.tail _ hq), ?_⟩⟩
        · intro p hp q hq
          rw [List.mem_singleton.mp hq]; exact hoffA _ p hp
        · exact exp_step hexp hpc
        · exact pre_len hlen2
        · exact pre_all hpre (Nat.le_trans (Txt.slice_le _ _ _) hu) hp6
      | true =>
        rcases due_cases hg z with hdz | hdz
        · rw [hdz] at hvz
          have hpc : pc kvs true z = PySem.Str.ofString "{" ++ z ++ PySem.Str.ofString "}" := by simp [pc, hdz]
          have hp6 : (PySem.Str.ofString "{" ++ z ++ PySem.Str.ofString "}").length ≤ 1000 := by
            have h1 : (PySem.Str.ofString "{").length = 1 := rfl
            have h2 : (PySem.Str.ofString "}").length = 1 := rfl
            rw [PySem.Str.length_append, PySem.Str.length_append]; omega
          k_steps
          rename News _ _ _ _ => hN3
          obtain ⟨psv2, hps2, hN4⟩ := two_more hps hN3
          refine ⟨_, _, _, (Pa, W.listOf psv2.toArray psv2.length) :: (la, W.listOf vs9.toArray vs9.length) :: (Ea, oE) :: (D2, o) :: (x, instObj 391 d) :: (d, tmDict w tA tB tC tu u D os) :: (D, LCg.lst (y0 :: ys)) :: tail, rfl, (by k_asm), hN4, ?_, (by walk_at "mem"), (hJ2 _ _ _).mpr ⟨rfl, rfl, rfl, rfl, fr, psv2, _, b9, _, rfl, hTL3, fun p hp => hp, hps2, ?_, ?_, fun q hq => hin q (.tail _ hq), ?_⟩⟩
          · intro p hp q hq
            rw [List.mem_singleton.mp hq]; exact hoffA _ p hp
          · exact exp_step hexp hpc
          · exact pre_len hlen2
          · exact pre_all hpre (Nat.le_trans (Txt.slice_le _ _ _) hu) hp6
        · have hdl := v15_lens _ hdz
          have hpc : pc kvs true z = due kvs z := by
            unfold pc
            rw [if_pos rfl, if_neg]
            intro e
            rw [e] at hdl
            exact absurd hdl (by decide)
          have hp6 : (due kvs z).length ≤ 1000 := by omega
          k_steps
          rename News _ _ _ _ => hN3
          obtain ⟨psv2, hps2, hN4⟩ := two_more hps hN3
          refine ⟨_, _, _, (Pa, W.listOf psv2.toArray psv2.length) :: (la, W.listOf vs9.toArray vs9.length) :: (Ea, oE) :: (D2, o) :: (x, instObj 391 d) :: (d, tmDict w tA tB tC tu u D os) :: (D, LCg.lst (y0 :: ys)) :: tail, rfl, (by k_asm), hN4, ?_, (by walk_at "mem"), (hJ2 _ _ _).mpr ⟨rfl, rfl, rfl, rfl, fr, psv2, _, b9, _, rfl, hTL3, fun p hp => hp, hps2, ?_, ?_, fun q hq => hin q (.tail _ hq), ?_⟩⟩
          · intro p hp q hq
            rw [List.mem_singleton.mp hq]; exact hoffA _ p hp
          · exact exp_step hexp hpc
          · exact pre_len hlen2
          · exact pre_all hpre (Nat.le_trans (Txt.slice_le _ _ _) hu) hp6
    · refine (hJ2 _ _ _).mpr ⟨rfl, rfl, rfl, rfl, fs, [], [], 0, _, rfl, hTL, ?_, .nil, rfl, by simp; omega, fun q h => h, fun z h => nomatch h⟩
      intro p hp
      rw [← htl] at hp
      simp only [List.mem_cons, List.mem_append] at hp ⊢
      grind
  · rintro v l m news hj it h tk hc F N
    obtain ⟨hm1, hm2, hm3, hm4, oE, kvE, nl, rfl, hE, hbl, hval, hlen⟩ := (hJ1 _ _ _).mp hj
    clear hj
    cases hbl with
    | @cons _ nm _ nl' hbk hbl' =>
    obtain ⟨d2, tl, hnm, hP, htl⟩ := hbk
    obtain ⟨x2, op, dop, vars, tup, opts, dflt, vn, s1, s2, s3, s4, s5, s6, s7, s8, s9, s10, oO, oD, rfl, rfl, hO, _⟩ := hP
    have hnl := names4_len nm hnm
    have N2 := News.sub N (led := uvLed w nm x2 d2 op dop vars tup opts dflt s1 s2 s3 s4 s5 s6 s7 s8 s9 (.ref vn) oO oD ++ ((I, it) :: (Ea, oE) :: (D2, o) :: (x, instObj 391 d) :: (d, tmDict w tA tB tC tu u D os) :: (D, LCg.lst (y0 :: ys)) :: vobs)) (by
      intro p hp
      rcases List.mem_append.mp hp with hp | hp
      · exact .tail _ (.tail _ (.tail _ (.tail _ (.tail _ (.tail _ (htl p (.tail _ hp)))))))
      · exact hp)
    have hx2 : @LT.lt Nat _ x2 Ea ∧ @LT.lt Nat _ d2 Ea ∧ @LT.lt Nat _ op Ea ∧ @LT.lt Nat _ dop Ea ∧ @LT.lt Nat _ vars Ea ∧ @LT.lt Nat _ tup Ea ∧ @LT.lt Nat _ opts Ea ∧ @LT.lt Nat _ dflt Ea := by
      refine ⟨hvb _ (htl (x2, _) (.tail _ (.head _))), hvb _ (htl (d2, _) (.tail _ (.tail _ (.head _)))), hvb _ (htl (op, _) (.tail _ (.tail _ (.tail _ (.head _))))), hvb _ (htl (dop, _) (.tail _ (.tail _ (.tail _ (.tail _ (.head _)))))), hvb _ (htl (vars, _) (.tail _ (.tail _ (.tail _ (.tail _ (.tail _ (.head _))))))), hvb _ (htl (tup, _) (.tail _ (.tail _ (.tail _ (.tail _ (.tail _ (.tail _ (.head _)))))))), hvb _ (htl (opts, _) (.tail _ (.tail _ (.tail _ (.tail _ (.tail _ (.tail _ (.tail _ (.head _))))))))), hvb _ (htl (dflt, _) (.tail _ (.tail _ (.tail _ (.tail _ (.tail _ (.tail _ (.tail _ (.tail _ (.head _))))))))))⟩
    simp only [uvLed, List.cons_append, List.nil_append] at N2
    simp only [List.length_cons] at hlen
    clear N htl
    rw [mput_self hm1, mput_self hm2, mput_self hm3, mput_self hm4] at F
    have hmk : Marked Ea oE := trivial
    k_steps
    rename Obj.IsDictOf _ _ (merged _ _) => hM
    rename News _ _ _ _ => hNN
    rename Obj => oE2
    refine ⟨_, _, _, (Ea, oE2) :: (D2, o) :: (x, instObj 391 d) :: (d, tmDict w tA tB tC tu u D os) :: (D, LCg.lst (y0 :: ys)) :: vobs, rfl, (by k_asm), News.sub hNN ?_, ?_, (by walk_at "mem"), (hJ1 _ _ _).mpr ⟨rfl, rfl, rfl, rfl, oE2, _, nl', rfl, hM, hbl', ?_, ?_⟩⟩
    · intro p hp
      simp only [List.mem_cons] at hp ⊢
      grind
    · intro p hp
      simp only [List.mem_cons] at hp
      rcases hp with rfl | rfl | rfl | rfl | rfl | hp
      all_goals (first | (refine neN ?_; dsimp only; omega) | (have := hvb _ (by assumption); refine neN ?_; omega))
    · intro nm2 hn2
      rcases hval nm2 hn2 with ⟨t, ht⟩ | h2
      · rw [valueAt_merged _ _ _ (by simp), valueAt_cons]
        by_cases e : nm = nm2
        · subst e; rw [if_pos rfl]; exact .inl ⟨_, rfl⟩
        · rw [if_neg e]; exact .inl ⟨t, ht⟩
      · rcases List.mem_cons.mp h2 with rfl | h2
        · rw [valueAt_merged _ _ _ (by simp), valueAt_cons, if_pos rfl]; exact .inl ⟨_, rfl⟩
        · exact .inr h2
    · refine Nat.le_trans (Nat.add_le_add_right (merged_length_le _ _) _) ?_
      simp only [List.length_cons, List.length_nil]
      omega
  · refine (hJ1 _ _ _).mpr ⟨rfl, rfl, rfl, rfl, oE0, [], fs.map (·.2.2), rfl, hE0, ?_, fun nm hn => .inr hn, ?_⟩
    · rw [List.toList_toArray]; exact hV.blks
    · rw [List.toList_toArray]; simpa using hyl

end
end

section
open PySem PySem.W PyProof.Rows PySem.Spec PySem.Calls PyProof.V
section
variable {w : World} {led : Led} {mean : ExcName → Option Value} {mg mb : PySem.Str → Option Value} {dp un : Nat} {gd : Option (List Code)} {cn : PySem.Str} {cs : Scope} {a : Addr} {ccd : Value} {cl : List (PySem.Str × Addr)} {outer : List Env} {A₀ : Around} {base h₀ : Heap} {L : Addr} {m : PySem.Str → Option Value} {s : Shared} {Q E : Value → Shared → Prop}
/-- the text that a template tells -/
def expText (u : PySem.Str) (kvs : List (PySem.Str × Value)) (rep : Bool) : PySem.Str := Txt.join (PySem.Str.ofString "") (expParts u (pc kvs rep) 0 (exScan u 0 u.cps.toList (none, [])).2)
theorem over_good {kvs1 kvs2 kvs : List (PySem.Str × Value)} (h : Over kvs1 kvs2 kvs) (h1 : GoodD kvs1) (h2 : GoodD kvs2) : GoodD kvs := by
  intro nm v hv
  rw [h.1 nm] at hv
  cases e : valueAt kvs2 nm with
  | none => rw [e] at hv; exact h1 nm v hv
  | some y => rw [e] at hv; cases hv; exact h2 nm _ e
theorem merge_d_use2 {d1 d2 : Addr} {o1 o2 : Obj} {kvs1 kvs2 : List (PySem.Str × Value)} (B : Below A₀ base outer h₀) (F : Fr h₀ L s.heap m) (X : (Mine.KF w.params).In h₀) (N : News h₀ L s.heap led) (T : Top Mine.vw LS mean mg mb h₀) (hk : cs.kind = .function) (hdp : dp + 60 < recursionLimit) (hun : un + 10 * 60 < cLine) (hne : d1 ≠ d2) (m1 : (d1, o1) ∈ led) (m2 : (d2, o2) ∈ led) (hd1 : o1.IsDictOf (PySem.strKind MProg w) kvs1) (hd2 : o2.IsDictOf (PySem.strKind MProg w) kvs2) (lo1 : (d1 == sysModules) = false) (lo2 : (d2 == sysModules) = false)
   (hl1 : kvs1.length ≤ 100) (hl2 : kvs2.length ≤ 100) (hg1 : GoodD kvs1) (hg2 : GoodD kvs2)
   (hret : ∀ d o kvs h' tk', Fr h₀ L h' m → News h₀ L h' ((d, o) :: led) → o.IsDictOf (PySem.strKind MProg w) kvs → (d == sysModules) = false → Over kvs1 kvs2 kvs → GoodD kvs → Q (.ref d) { s with heap := h', toks := tk' }) :
   wpAny (model MProg w) (ktrTop dp un gd cn cs L a ccd cl outer) (call (.ref 332) [.ref d1, .ref d2]) Q E s :=
  merge_d_use hne hd1 lo1 hd2 lo2 hl1 hl2 B F X N T hk hdp hun (by intro p hp; simp only [List.mem_cons, List.not_mem_nil, or_false] at hp; rcases hp with rfl | rfl <;> assumption) fun d o kvs h' tk' F' N' h1 h2 h3 => hret d o kvs h' tk' F' N' h1 h2 h3 (over_good h3 hg1 hg2)
theorem merge_none_use2 {d2 : Addr} {o2 : Obj} {kvs2 : List (PySem.Str × Value)} (B : Below A₀ base outer h₀) (F : Fr h₀ L s.heap m) (X : (Mine.KF w.params).In h₀) (N : News h₀ L s.heap led) (T : Top Mine.vw LS mean mg mb h₀) (hk : cs.kind = .function) (hdp : dp + 60 < recursionLimit) (hun : un + 10 * 60 < cLine) (m2 : (d2, o2) ∈ led) (hd2 : o2.IsDictOf (PySem.strKind MProg w) kvs2) (lo2 : (d2 == sysModules) = false) (hg2 : GoodD kvs2)
   (hret : ∀ d o kvs h' tk', Fr h₀ L h' m → News h₀ L h' ((d, o) :: led) → o.IsDictOf (PySem.strKind MProg w) kvs → (d == sysModules) = false → Over [] kvs2 kvs → GoodD kvs → Q (.ref d) { s with heap := h', toks := tk' }) :
   wpAny (model MProg w) (ktrTop dp un gd cn cs L a ccd cl outer) (call (.ref 332) [.none, .ref d2]) Q E s :=
  merge_none_use hd2 lo2 B F X N T hk hdp hun (by intro p hp; rw [List.mem_singleton.mp hp]; exact m2) fun d o kvs h' tk' F' N' h1 h2 h3 => hret d o kvs h' tk' F' N' h1 h2 h3 (over_good h3 (fun _ _ h => nomatch h) hg2)
/-- a template that stands on tl, with its first variable -/
structure TmOk (w : World) (u : PySem.Str) (y0 : Value) (ys : List Value) (vobs : Led) : Prop where
  hu : u.length ≤ 1000
  hfl : (exScan u 0 u.cps.toList (none, [])).2.length ≤ 300
  hV : Vobs w (y0 :: ys) ((exScan u 0 u.cps.toList (none, [])).2.map (·.2.2)) vobs
  hres : ∀ kvs, GoodD kvs → (expText u kvs true).length ≤ 1000 ∧ ∀ q ∈ (exScan (expText u kvs true) 0 (expText u kvs true).cps.toList (none, [])).2, q.2.2 ∈ Names4
theorem ex_use {u : PySem.Str} {x d D os D2 : Addr} {y0 : Value} {ys : List Value} {vobs : Led} {tA tB tC tu : Tok} {o : Obj} {kvs : List (PySem.Str × Value)} {rep : Bool} (B : Below A₀ base outer h₀) (F : Fr h₀ L s.heap m) (X : (Mine.KF w.params).In h₀) (N : News h₀ L s.heap led) (T : Top Mine.vw LS mean mg mb h₀) (hk : cs.kind = .function) (hdp : dp + 300 < recursionLimit) (hun : un + 10 * 300 < cLine) (m1 : (D2, o) ∈ led) (m2 : (x, instObj 391 d) ∈ led) (m3 : (d, tmDict w tA tB tC tu u D os) ∈ led) (m4 : (D, LCg.lst (y0 :: ys)) ∈ led) (hO : TmOk w u y0 ys vobs) (ms : ∀ p ∈ vobs, p ∈ led)
   (hd : o.IsDictOf (PySem.strKind MProg w) kvs) (hlo : (D2 == sysModules) = false) (hg : GoodD kvs)
   (hret : ∀ t h' tk', Fr h₀ L h' m → News h₀ L h' led → Q (.str (expText u kvs rep) t) { s with heap := h', toks := tk' }) :
   wpAny (model MProg w) (ktrTop dp un gd cn cs L a ccd cl outer) (call (.ref 372) [.ref x, .ref D2, .bool rep]) Q E s := by
  refine Ctr.useR (ex_spec w u x d D os D2 y0 ys vobs tA tB tC tu o kvs rep hO.hu hO.hfl hO.hV hd hlo hg) B F X N T hk ?_ hdp hun ?_
  · intro p hp
    simp only [tmLed, List.mem_cons] at hp
    rcases hp with rfl | rfl | rfl | rfl | hp
    · exact m1
    · exact m2
    · exact m3
    · exact m4
    · exact ms p hp
  · rintro r tl h' tk' F' N' ⟨rfl, t, rfl⟩
    exact hret t h' tk' F' N'
theorem tm_use {u : PySem.Str} {t1 : Tok} (hu : u.length ≤ 1000) (hin : ∀ q ∈ (exScan u 0 u.cps.toList (none, [])).2, q.2.2 ∈ Names4) (B : Below A₀ base outer h₀) (F : Fr h₀ L s.heap m) (X : (Mine.KF w.params).In h₀) (N : News h₀ L s.heap led) (T : Top Mine.vw LS mean mg mb h₀) (hk : cs.kind = .function) (hdp : dp + 400 < recursionLimit) (hun : un + 10 * 400 < cLine)
   (hret : ∀ r tl h' tk', Fr h₀ L h' m → News h₀ L h' (tl ++ led) → TmPost w u tl r → Q r { s with heap := h', toks := tk' }) :
   wpAny (model MProg w) (ktrTop dp un gd cn cs L a ccd cl outer) (call (.ref 391) [.str u t1]) Q E s :=
  Ctr.useR (tm_init w u t1 hu hin) B F X N T hk (fun _ h => nomatch h) hdp hun hret
theorem tm_use2 {u : PySem.Str} {t1 : Tok} {kvs : List (PySem.Str × Value)} {y0 : Value} {ys : List Value} {vobs : Led} (hO : TmOk w u y0 ys vobs) (hg : GoodD kvs) (B : Below A₀ base outer h₀) (F : Fr h₀ L s.heap m) (X : (Mine.KF w.params).In h₀) (N : News h₀ L s.heap led) (T : Top Mine.vw LS mean mg mb h₀) (hk : cs.kind = .function) (hdp : dp + 400 < recursionLimit) (hun : un + 10 * 400 < cLine)
   (hret : ∀ r tl h' tk', Fr h₀ L h' m → News h₀ L h' (tl ++ led) → TmPost w (expText u kvs true) tl r → Q r { s with heap := h', toks := tk' }) :
   wpAny (model MProg w) (ktrTop dp un gd cn cs L a ccd cl outer) (call (.ref 391) [.str (expText u kvs true) t1]) Q E s :=
  tm_use (hO.hres kvs hg).1 (hO.hres kvs hg).2 B F X N T hk hdp hun hret
theorem rows22 : True := by
  k_with_none
  k_with "compareOp In str str" => (k_here; first | refine in_strD (b := true) (by decide +kernel) ?_ | refine in_strD (b := false) (by decide +kernel) ?_)
  k_with "exec Assign cons ListComp" => (k_here; (with_reducible show wpAny _ _ (exec (Stmt.Assign [Expr.Attribute _ _ _] _ _) _) _ _ _); with_reducible refine plainObj_wpAny_Assign_Attribute ?_ ?_; rotate_left; with_unfolding_all rfl)
  k_with "exec For Tuple Attribute cons nil" => (k_here; (rename Fr _ _ _ _ => lF'); (with_unfolding_all refine' For_turns lF' ?_; k_whole))
  k_with "call builtin:dict.get" => (k_here; k_dflt (refine kdg_get2 (knd := PySem.strKind _ _) (by k_asm) (by k_mem) (by k_asm) (by assumption) (strKind_is _ _ _ _) _ (by assumption) ?_); (try dsimp only [Option.getD]))
  k_with "truthy str" => (k_here; refine truthy_strT (by omega) ?_)
  k_with "subscriptTail" => (k_here; k_dflt ((with_reducible show wpAny _ _ (subscriptTail _ _ (Value.ref _) (Value.str _ _)) _ _ _); refine kdt_tail (knd := PySem.strKind _ _) (by k_asm) (by k_mem) (by k_asm) ?_))
  k_with "getItem ref str" => (k_here; k_dflt (refine kdt_getItem (knd := PySem.strKind _ _) (by k_asm) (by k_mem) (by k_asm) (strKind_is _ _ _ _) (by first | assumption | rfl) ?_))
  k_with "mem" => (repeat (first | exact List.Mem.head _ | assumption | refine List.Mem.tail _ ?_))
  k_with "sub" => ((try dsimp only [List.cons_append, List.nil_append]); (repeat (refine List.forall_mem_cons.mpr ⟨by walk_at "mem", ?_⟩)); first | (intro p hp; walk_at "mem"; done) | exact fun _ h => (List.not_mem_nil h).elim)
  k_with "call ref" => (k_here; (with_reducible show wpAny _ _ (call (Value.ref 391) _) _ _ _); k_dflt (refine tm_use2 (by assumption) (by assumption) (by k_asm) (by k_asm) (by k_asm) (by k_asm) (by k_asm) (by first | exact rfl | assumption) (by ktr_room) (by ktr_units)  ?_); intro r'q tl'q h'q tk'q F'q N'q hP'q; (try k_sweep))
  trivial
local macro_rules | `(tactic| k_all) => `(tactic| with_reducible assumption)
theorem rows23 : True := by
  k_with "call ref" => (k_here; (with_reducible show wpAny _ _ (call (Value.ref 332) [Value.ref _, Value.ref _]) _ _ _); k_dflt (refine merge_d_use2 (by k_asm) (by k_asm) (by k_asm) (by k_asm) (by k_asm) (by first | exact rfl | assumption) (by ktr_room) (by ktr_units) (by k_ne) (by k_mem) (by k_mem) (by assumption) (by assumption) (by assumption) (by assumption) (by first | assumption | exact Nat.zero_le _) (by first | assumption | exact Nat.zero_le _) (by assumption) (by first | assumption | exact fun _ _ h => nomatch h) ?_); intro Mv'q Mo'q Mk'q h'q tk'q F'q N'q hMd'q hMl'q hMo'q hMg'q; (try k_sweep))
  k_with "call ref" => (k_here; (with_reducible show wpAny _ _ (call (Value.ref 332) [Value.none, Value.ref _]) _ _ _); k_dflt (refine merge_none_use2 (by k_asm) (by k_asm) (by k_asm) (by k_asm) (by k_asm) (by first | exact rfl | assumption) (by ktr_room) (by ktr_units) (by k_mem) (by assumption) (by assumption) (by first | assumption | exact fun _ _ h => nomatch h) ?_); intro Mv'q Mo'q Mk'q h'q tk'q F'q N'q hMd'q hMl'q hMo'q hMg'q; (try k_sweep))
  k_with "call ref" => (k_here; (with_reducible show wpAny _ _ (call (Value.ref 372) [Value.ref _, Value.ref _, Value.bool _]) _ _ _); k_dflt (refine ex_use (by k_asm) (by k_asm) (by k_asm) (by k_asm) (by k_asm) (by first | exact rfl | assumption) (by ktr_room) (by ktr_units) (by k_mem) (by k_mem) (by k_mem) (by k_mem) (by assumption) (by (intro p hp; simp only [List.mem_cons]; simp only [hp, or_true])) (by assumption) (by assumption) (by assumption) ?_); intro t'q h'q tk'q F'q N'q; (try k_sweep))
  k_with "truthy ref" => (k_here; k_dflt (refine dx_truthy (knd := PySem.strKind _ _) (by k_asm) (by k_mem) (by assumption) (by assumption) (by omega) ?_))
  trivial
/-- the merge of what is handed to a method -/
def MethPost (u : PySem.Str) (kvs1 kvs2 : List (PySem.Str × Value)) (rep : Bool) (r : Value) : Prop := ∃ kvs t, Over kvs1 kvs2 kvs ∧ GoodD kvs ∧ r = .str (expText u kvs rep) t
/-- what a partial hands back -/
def PartPost (w : World) (u : PySem.Str) (kvs1 kvs2 : List (PySem.Str × Value)) (tl : Led) (r : Value) : Prop := ∃ kvs, Over kvs1 kvs2 kvs ∧ GoodD kvs ∧ TmPost w (expText u kvs true) tl r
theorem m380_dd (w : World) (u : PySem.Str) (x d D os : Addr) (y0 : Value) (ys : List Value) (vobs : Led) (tA tB tC tu : Tok) (hO : TmOk w u y0 ys vobs) (d1 : Addr) (o1 : Obj) (kvs1 : List (PySem.Str × Value)) (hd1 : o1.IsDictOf (PySem.strKind MProg w) kvs1) (lo1 : (d1 == sysModules) = false) (hl1 : kvs1.length ≤ 100) (hg1 : GoodD kvs1) (d2 : Addr) (o2 : Obj) (kvs2 : List (PySem.Str × Value)) (hd2 : o2.IsDictOf (PySem.strKind MProg w) kvs2) (lo2 : (d2 == sysModules) = false) (hl2 : kvs2.length ≤ 100) (hg2 : GoodD kvs2) (hne : d1 ≠ d2) :
   Ctr 400 w 380 [.ref x, .ref d1, .ref d2] ((d1, o1) :: (d2, o2) :: tmLed w u x d D os (y0 :: ys) vobs tA tB tC tu)
     (RPost ((d1, o1) :: (d2, o2) :: tmLed w u x d D os (y0 :: ys) vobs tA tB tC tu) fun tl r => tl = [] ∧ MethPost u kvs1 kvs2 false r) := by
  intro mean mg mb dp un gd cn cs a ccd cl outer A₀ base h₀ L m rest s Q E B F X N hne T hk hdp hun hret
  refine wpAny_call ?_
  k_dflt ktr_enter
  clear N hne F
  rename News _ _ _ _ => N1
  simp only [tmLed] at N1
  cases hk2 : kvs2.isEmpty with
  | true =>
    have hk3 := List.isEmpty_iff.mp hk2
    subst hk3
    k_steps
    rename Over _ _ _ => hov
    rename News _ _ _ rest => hR
    revert hR
    rename News h₀ L _ _ => hN
    intro hR
    refine hret _ ([] ++ ((d1, o1) :: (d2, o2) :: tmLed w u x d D os (y0 :: ys) vobs tA tB tC tu)) _ _ (by k_asm) (news_join hN hR ?_) ⟨[], rfl, rfl, _, _, hov, by assumption, rfl⟩
    intro p hp
    simp only [tmLed, List.mem_cons, List.mem_append, List.nil_append, List.not_mem_nil, or_false] at hp ⊢
    grind
  | false =>
    k_steps
    rename Over _ _ _ => hov
    rename News _ _ _ rest => hR
    revert hR
    rename News h₀ L _ _ => hN
    intro hR
    refine hret _ ([] ++ ((d1, o1) :: (d2, o2) :: tmLed w u x d D os (y0 :: ys) vobs tA tB tC tu)) _ _ (by k_asm) (news_join hN hR ?_) ⟨[], rfl, rfl, _, _, hov, by assumption, rfl⟩
    intro p hp
    simp only [tmLed, List.mem_cons, List.mem_append, List.nil_append, List.not_mem_nil, or_false] at hp ⊢
    grind
theorem m380_dn (w : World) (u : PySem.Str) (x d D os : Addr) (y0 : Value) (ys : List Value) (vobs : Led) (tA tB tC tu : Tok) (hO : TmOk w u y0 ys vobs) (d1 : Addr) (o1 : Obj) (kvs1 : List (PySem.Str × Value)) (hd1 : o1.IsDictOf (PySem.strKind MProg w) kvs1) (lo1 : (d1 == sysModules) = false) (hl1 : kvs1.length ≤ 100) (hg1 : GoodD kvs1) :
   Ctr 400 w 380 [.ref x, .ref d1, .none] ((d1, o1) :: tmLed w u x d D os (y0 :: ys) vobs tA tB tC tu)
     (RPost ((d1, o1) :: tmLed w u x d D os (y0 :: ys) vobs tA tB tC tu) fun tl r => tl = [] ∧ MethPost u kvs1 [] false r) := by
  intro mean mg mb dp un gd cn cs a ccd cl outer A₀ base h₀ L m rest s Q E B F X N hne T hk hdp hun hret
  refine wpAny_call ?_
  k_dflt ktr_enter
  clear N hne F
  rename News _ _ _ _ => N1
  simp only [tmLed] at N1
  k_steps
  rename Over _ _ _ => hov
  rename News _ _ _ rest => hR
  revert hR
  rename News h₀ L _ _ => hN
  intro hR
  refine hret _ ([] ++ ((d1, o1) :: tmLed w u x d D os (y0 :: ys) vobs tA tB tC tu)) _ _ (by k_asm) (news_join hN hR ?_) ⟨[], rfl, rfl, _, _, hov, by assumption, rfl⟩
  intro p hp
  simp only [tmLed, List.mem_cons, List.mem_append, List.nil_append, List.not_mem_nil, or_false] at hp ⊢
  grind
theorem m380_nd (w : World) (u : PySem.Str) (x d D os : Addr) (y0 : Value) (ys : List Value) (vobs : Led) (tA tB tC tu : Tok) (hO : TmOk w u y0 ys vobs) (d2 : Addr) (o2 : Obj) (kvs2 : List (PySem.Str × Value)) (hd2 : o2.IsDictOf (PySem.strKind MProg w) kvs2) (lo2 : (d2 == sysModules) = false) (hl2 : kvs2.length ≤ 100) (hg2 : GoodD kvs2) :
   Ctr 400 w 380 [.ref x, .none, .ref d2] ((d2, o2) :: tmLed w u x d D os (y0 :: ys) vobs tA tB tC tu)
     (RPost ((d2, o2) :: tmLed w u x d D os (y0 :: ys) vobs tA tB tC tu) fun tl r => tl = [] ∧ MethPost u [] kvs2 false r) := by
  intro mean mg mb dp un gd cn cs a ccd cl outer A₀ base h₀ L m rest s Q E B F X N hne T hk hdp hun hret
  refine wpAny_call ?_
  k_dflt ktr_enter
  clear N hne F
  rename News _ _ _ _ => N1
  simp only [tmLed] at N1
  cases hk2 : kvs2.isEmpty with
  | true =>
    have hk3 := List.isEmpty_iff.mp hk2
    subst hk3
    k_steps
    rename Over _ _ _ => hov
    rename News _ _ _ rest => hR
    revert hR
    rename News h₀ L _ _ => hN
    intro hR
    refine hret _ ([] ++ ((d2, o2) :: tmLed w u x d D os (y0 :: ys) vobs tA tB tC tu)) _ _ (by k_asm) (news_join hN hR ?_) ⟨[], rfl, rfl, _, _, hov, by assumption, rfl⟩
    intro p hp
    simp only [tmLed, List.mem_cons, List.mem_append, List.nil_append, List.not_mem_nil, or_false] at hp ⊢
    grind
  | false =>
    k_steps
    rename Over _ _ _ => hov
    rename News _ _ _ rest => hR
    revert hR
    rename News h₀ L _ _ => hN
    intro hR
    refine hret _ ([] ++ ((d2, o2) :: tmLed w u x d D os (y0 :: ys) vobs tA tB tC tu)) _ _ (by k_asm) (news_join hN hR ?_) ⟨[], rfl, rfl, _, _, hov, by assumption, rfl⟩
    intro p hp
    simp only [tmLed, List.mem_cons, List.mem_append, List.nil_append, List.not_mem_nil, or_false] at hp ⊢
    grind
theorem m380_0 (w : World) (u : PySem.Str) (x d D os : Addr) (y0 : Value) (ys : List Value) (vobs : Led) (tA tB tC tu : Tok) (hO : TmOk w u y0 ys vobs) :
   Ctr 400 w 380 [.ref x] (tmLed w u x d D os (y0 :: ys) vobs tA tB tC tu)
     (RPost (tmLed w u x d D os (y0 :: ys) vobs tA tB tC tu) fun tl r => tl = [] ∧ MethPost u [] [] false r) := by
  intro mean mg mb dp un gd cn cs a ccd cl outer A₀ base h₀ L m rest s Q E B F X N hne T hk hdp hun hret
  refine wpAny_call ?_
  k_dflt ktr_enter
  clear N hne F
  rename News _ _ _ _ => N1
  simp only [tmLed] at N1
  k_steps
  rename Over _ _ _ => hov
  rename News _ _ _ rest => hR
  revert hR
  rename News h₀ L _ _ => hN
  intro hR
  refine hret _ ([] ++ (tmLed w u x d D os (y0 :: ys) vobs tA tB tC tu)) _ _ (by k_asm) (news_join hN hR ?_) ⟨[], rfl, rfl, _, _, hov, by assumption, rfl⟩
  intro p hp
  simp only [tmLed, List.mem_cons, List.mem_append, List.nil_append, List.not_mem_nil, or_false] at hp ⊢
  grind
theorem m388_dd (w : World) (u : PySem.Str) (x d D os : Addr) (y0 : Value) (ys : List Value) (vobs : Led) (tA tB tC tu : Tok) (hO : TmOk w u y0 ys vobs) (d1 : Addr) (o1 : Obj) (kvs1 : List (PySem.Str × Value)) (hd1 : o1.IsDictOf (PySem.strKind MProg w) kvs1) (lo1 : (d1 == sysModules) = false) (hl1 : kvs1.length ≤ 100) (hg1 : GoodD kvs1) (d2 : Addr) (o2 : Obj) (kvs2 : List (PySem.Str × Value)) (hd2 : o2.IsDictOf (PySem.strKind MProg w) kvs2) (lo2 : (d2 == sysModules) = false) (hl2 : kvs2.length ≤ 100) (hg2 : GoodD kvs2) (hne : d1 ≠ d2) :
   Ctr 450 w 388 [.ref x, .ref d1, .ref d2] ((d1, o1) :: (d2, o2) :: tmLed w u x d D os (y0 :: ys) vobs tA tB tC tu)
     (RPost ((d1, o1) :: (d2, o2) :: tmLed w u x d D os (y0 :: ys) vobs tA tB tC tu) (PartPost w u kvs1 kvs2)) := by
  intro mean mg mb dp un gd cn cs a ccd cl outer A₀ base h₀ L m rest s Q E B F X N hne T hk hdp hun hret
  refine wpAny_call ?_
  k_dflt ktr_enter
  clear N hne F
  rename News _ _ _ _ => N1
  simp only [tmLed] at N1
  cases hk2 : kvs2.isEmpty with
  | true =>
    have hk3 := List.isEmpty_iff.mp hk2
    subst hk3
    k_steps
    rename Over _ _ _ => hov
    rename News _ _ _ rest => hR
    revert hR
    rename News h₀ L _ _ => hN
    intro hR
    rename TmPost _ _ _ _ => hTP
    refine hret _ (_ ++ ((d1, o1) :: (d2, o2) :: tmLed w u x d D os (y0 :: ys) vobs tA tB tC tu)) _ _ (by k_asm) (news_join hN hR ?_) ⟨_, rfl, _, hov, by assumption, hTP⟩
    intro p hp
    simp only [tmLed, List.mem_cons, List.mem_append, List.nil_append, List.not_mem_nil, or_false] at hp ⊢
    grind
  | false =>
    k_steps
    rename Over _ _ _ => hov
    rename News _ _ _ rest => hR
    revert hR
    rename News h₀ L _ _ => hN
    intro hR
    rename TmPost _ _ _ _ => hTP
    refine hret _ (_ ++ ((d1, o1) :: (d2, o2) :: tmLed w u x d D os (y0 :: ys) vobs tA tB tC tu)) _ _ (by k_asm) (news_join hN hR ?_) ⟨_, rfl, _, hov, by assumption, hTP⟩
    intro p hp
    simp only [tmLed, List.mem_cons, List.mem_append, List.nil_append, List.not_mem_nil, or_false] at hp ⊢
    grind
theorem m388_d (w : World) (u : PySem.Str) (x d D os : Addr) (y0 : Value) (ys : List Value) (vobs : Led) (tA tB tC tu : Tok) (hO : TmOk w u y0 ys vobs) (d1 : Addr) (o1 : Obj) (kvs1 : List (PySem.Str × Value)) (hd1 : o1.IsDictOf (PySem.strKind MProg w) kvs1) (lo1 : (d1 == sysModules) = false) (hl1 : kvs1.length ≤ 100) (hg1 : GoodD kvs1) :
   Ctr 450 w 388 [.ref x, .ref d1] ((d1, o1) :: tmLed w u x d D os (y0 :: ys) vobs tA tB tC tu)
     (RPost ((d1, o1) :: tmLed w u x d D os (y0 :: ys) vobs tA tB tC tu) (PartPost w u kvs1 [])) := by
  intro mean mg mb dp un gd cn cs a ccd cl outer A₀ base h₀ L m rest s Q E B F X N hne T hk hdp hun hret
  refine wpAny_call ?_
  k_dflt ktr_enter
  clear N hne F
  rename News _ _ _ _ => N1
  simp only [tmLed] at N1
  k_steps
  rename Over _ _ _ => hov
  rename News _ _ _ rest => hR
  revert hR
  rename News h₀ L _ _ => hN
  intro hR
  rename TmPost _ _ _ _ => hTP
  refine hret _ (_ ++ ((d1, o1) :: tmLed w u x d D os (y0 :: ys) vobs tA tB tC tu)) _ _ (by k_asm) (news_join hN hR ?_) ⟨_, rfl, _, hov, by assumption, hTP⟩
  intro p hp
  simp only [tmLed, List.mem_cons, List.mem_append, List.nil_append, List.not_mem_nil, or_false] at hp ⊢
  grind
end
end

section
open PySem PySem.W PyProof.Rows PySem.Spec PySem.Calls PyProof.V
/-- the law's template -/
def u0 : PySem.Str := PySem.Str.ofString "{a}/b-{b}?c={list}&{x.y}{a}/"
def nA : PySem.Str := PySem.Str.ofString "a"
def nB : PySem.Str := PySem.Str.ofString "b"
def nL : PySem.Str := PySem.Str.ofString "list"
def nX : PySem.Str := PySem.Str.ofString "x.y"
theorem u0_scan : (exScan u0 0 u0.cps.toList (none, [])).2 = [(0, 3, nA), (6, 9, nB), (12, 18, nL), (19, 24, nX), (24, 27, nA)] := by decide +kernel
theorem u0_parts (g : PySem.Str → PySem.Str) : expParts u0 g 0 (exScan u0 0 u0.cps.toList (none, [])).2 =
    [PySem.Str.ofString "", g nA, PySem.Str.ofString "/b-", g nB, PySem.Str.ofString "?c=", g nL, PySem.Str.ofString "&", g nX, PySem.Str.ofString "", g nA, PySem.Str.ofString "/"] := by
  rw [u0_scan]
  have h1 : Txt.slice u0 (some 0) (some 0) = PySem.Str.ofString "" := by decide +kernel
  have h2 : Txt.slice u0 (some 3) (some 6) = PySem.Str.ofString "/b-" := by decide +kernel
  have h3 : Txt.slice u0 (some 9) (some 12) = PySem.Str.ofString "?c=" := by decide +kernel
  have h4 : Txt.slice u0 (some 18) (some 19) = PySem.Str.ofString "&" := by decide +kernel
  have h5 : Txt.slice u0 (some 24) (some 24) = PySem.Str.ofString "" := by decide +kernel
  have h6 : Txt.slice u0 (some 27) none = PySem.Str.ofString "/" := by decide +kernel
  simp only [expParts, h1, h2, h3, h4, h5, h6]
/-- one text of pieces -/
def piece5 (g : PySem.Str → PySem.Str) : PySem.Str := PySem.Str.ofString "" ++ g nA ++ PySem.Str.ofString "/b-" ++ g nB ++ PySem.Str.ofString "?c=" ++ g nL ++ PySem.Str.ofString "&" ++ g nX ++ PySem.Str.ofString "" ++ g nA ++ PySem.Str.ofString "/"
theorem join11 (a b c d e f g h i j k : PySem.Str) : Txt.join (PySem.Str.ofString "") [a, b, c, d, e, f, g, h, i, j, k] = a ++ b ++ c ++ d ++ e ++ f ++ g ++ h ++ i ++ j ++ k := by
  apply PySem.Str.ext'
  have he : (PySem.Str.ofString "").cps = #[] := rfl
  simp only [Txt.join, Builtin.Str.glued, List.drop_succ_cons, List.drop_zero, List.foldl_cons, List.foldl_nil, List.headD_cons, he, Array.append_empty, PySem.Str.cps_append]
theorem expText_u0 (kvs : List (PySem.Str × Value)) (rep : Bool) : expText u0 kvs rep = piece5 (pc kvs rep) := by
  unfold expText
  rw [u0_parts, join11]
  rfl
theorem pc_piece {kvs : List (PySem.Str × Value)} (hg : GoodD kvs) (rep : Bool) (z : PySem.Str) : pc kvs rep z = pieceOf (valueAt kvs z) z rep := by
  unfold pc pieceOf due
  cases h : valueAt kvs z with
  | none => cases rep <;> simp [h]
  | some v =>
    rcases hg z v h with rfl | ⟨y, t, rfl, hy⟩
    · cases rep <;> simp [h]
    · have hl := v15_lens y hy
      have hne : y ≠ PySem.Str.ofString "" := by
        rintro rfl
        exact absurd hl (by decide)
      cases rep <;> simp [h, hne]
theorem due_piece (ks : List (List (PySem.Str × Value))) (left : Bool) : dueAll ks left = piece5 (fun z => pieceOf (rowsAt none ks z) z left) := by
  unfold dueAll piece5
  simp only [List.foldl_cons, List.foldl_nil, dueStep]
  rfl
theorem expText_due {kvs : List (PySem.Str × Value)} {ks : List (List (PySem.Str × Value))} (hg : GoodD kvs) (h : ∀ z, rowsAt none ks z = valueAt kvs z) (rep : Bool) : expText u0 kvs rep = dueAll ks rep := by
  rw [expText_u0, due_piece]
  have e : pc kvs rep = fun z => pieceOf (rowsAt none ks z) z rep := by
    funext z
    rw [pc_piece hg, h z]
  rw [e]
end

section
open PySem PySem.W PyProof.Rows PySem.Spec PySem.Calls PyProof.V
theorem slice_toList (x : PySem.Str) {a b : Nat} (hab : a ≤ b) (hb : b ≤ x.length) : (Txt.slice x (some (a : Int)) (some (b : Int))).cps.toList = (x.cps.toList.drop a).take (b - a) := by
  have h := PySem.StrLaws.sliced_plain x hab hb
  unfold Txt.slice
  by_cases hc : (((1 : Int) == 1 && (Builtin.Str.strSliceIndices (some (a : Int)) (some (b : Int)) 1 x.length).length == x.length) = true)
  · rw [if_pos hc]
    have h2 : (Builtin.Str.strSliceIndices (some (a : Int)) (some (b : Int)) 1 x.length).length = x.length := by simpa using hc
    rw [PySem.StrLaws.strSliceIndices_plain hab hb] at h2
    simp at h2
    have ha : a = 0 := by omega
    have hb2 : b = x.length := by omega
    subst ha
    rw [hb2, List.drop_zero, Nat.sub_zero, List.take_of_length_le (by simp [PySem.Str.length])]
  · rw [if_neg hc]
    exact h
/-- the scan of what is left finds none but the law's names -/
def Inn (l : List Nat) : Prop := ∀ (u : PySem.Str) (pre : List Nat) (fs : List (Int × Int × PySem.Str)), u.cps.toList = pre ++ l → (∀ q ∈ fs, q.2.2 ∈ Names4) → ∀ q ∈ (exScan u pre.length l (none, fs)).2, q.2.2 ∈ Names4
theorem inn_nil : Inn [] := fun _ _ _ _ h => h
theorem inn_sign {c : Nat} {l : List Nat} (hc : c ≠ 123) (h : Inn l) : Inn (c :: l) := by
  intro u pre fs hu hf
  have hs : exStep u (none, fs) (pre.length : Int) c = (none, fs) := by unfold exStep; simp [hc]
  show ∀ q ∈ (exScan u (pre.length + 1) l (exStep u (none, fs) (pre.length : Int) c)).2, _
  rw [hs]
  have := h u (pre ++ [c]) fs (by rw [hu]; simp) hf
  rwa [List.length_append, List.length_singleton] at this
theorem inn_lit {l : List Nat} (h : Inn l) : ∀ {z : List Nat}, (∀ c ∈ z, c ≠ 123) → Inn (z ++ l)
  | [], _ => h
  | c :: r, hz => inn_sign (hz c (List.Mem.head _)) (inn_lit h fun d hd => hz d (List.mem_cons_of_mem _ hd))
theorem scan_in (u : PySem.Str) (j : Int) (fs : List (Int × Int × PySem.Str)) : ∀ (z : List Nat) (k : Nat) (l : List Nat), (∀ c ∈ z, c ≠ 125) → exScan u k (z ++ l) (some j, fs) = exScan u (k + z.length) l (some j, fs)
  | [], k, l, _ => rfl
  | c :: r, k, l, h => by
    have hs : exStep u (some j, fs) (k : Int) c = (some j, fs) := by unfold exStep; simp [h c (List.Mem.head _)]
    show exScan u (k + 1) (r ++ l) (exStep u (some j, fs) (k : Int) c) = _
    rw [hs, scan_in u j fs r (k + 1) l fun d hd => h d (List.mem_cons_of_mem _ hd)]
    rw [List.length_cons, Nat.add_assoc, Nat.add_comm 1]
theorem inn_name {l : List Nat} (h : Inn l) {nm : PySem.Str} (hn : nm ∈ Names4) (h125 : ∀ c ∈ nm.cps.toList, c ≠ 125) (hpos : 0 < nm.cps.toList.length) : Inn (123 :: (nm.cps.toList ++ 125 :: l)) := by
  intro u pre fs hu hf
  have hs : exStep u (none, fs) (pre.length : Int) 123 = (some (pre.length : Int), fs) := by unfold exStep; simp
  show ∀ q ∈ (exScan u (pre.length + 1) (nm.cps.toList ++ 125 :: l) (exStep u (none, fs) (pre.length : Int) 123)).2, _
  rw [hs, scan_in u _ fs _ _ _ h125]
  have hs2 : exStep u (some (pre.length : Int), fs) ((pre.length + 1 + nm.cps.toList.length : Nat) : Int) 125 = (none, fs ++ [((pre.length : Int), ((pre.length + 1 + nm.cps.toList.length : Nat) : Int) + 1, Txt.slice u (some ((pre.length : Int) + 1)) (some ((pre.length + 1 + nm.cps.toList.length : Nat) : Int)))]) := by
    have hlt : (pre.length : Int) + 1 < ((pre.length + 1 + nm.cps.toList.length : Nat) : Int) := by omega
    unfold exStep
    dsimp only
    rw [if_pos rfl, if_pos hlt]
  show ∀ q ∈ (exScan u (pre.length + 1 + nm.cps.toList.length + 1) l (exStep u (some (pre.length : Int), fs) ((pre.length + 1 + nm.cps.toList.length : Nat) : Int) 125)).2, _
  rw [hs2]
  have hu2 : u.cps.toList = (pre ++ 123 :: (nm.cps.toList ++ [125])) ++ l := by rw [hu]; simp
  have hsl : Txt.slice u (some ((pre.length : Int) + 1)) (some ((pre.length + 1 + nm.cps.toList.length : Nat) : Int)) = nm := by
    apply PySem.Str.ext'
    apply Array.toList_inj.mp
    have hlen : u.length = pre.length + (1 + (nm.cps.toList.length + (1 + l.length))) := by
      have := congrArg List.length hu
      simp only [List.length_append, List.length_cons] at this
      simp only [PySem.Str.length]
      rw [← Array.length_toList, this]; omega
    have e := slice_toList u (a := pre.length + 1) (b := pre.length + 1 + nm.cps.toList.length) (by omega) (by omega)
    have c1 : (((pre.length + 1 : Nat)) : Int) = (pre.length : Int) + 1 := by omega
    rw [c1] at e
    rw [e, hu, Nat.add_sub_cancel_left]
    have : pre ++ 123 :: (nm.cps.toList ++ 125 :: l) = (pre ++ [123]) ++ (nm.cps.toList ++ 125 :: l) := by simp
    rw [this, List.drop_left' (by simp), List.take_left' rfl]
  rw [hsl]
  have := h u _ (fs ++ [((pre.length : Int), ((pre.length + 1 + nm.cps.toList.length : Nat) : Int) + 1, nm)]) hu2 (by
    intro q hq
    rcases List.mem_append.mp hq with hq | hq
    · exact hf q hq
    · rw [List.mem_singleton.mp hq]; exact hn)
  have hl : (pre ++ 123 :: (nm.cps.toList ++ [125])).length = pre.length + 1 + nm.cps.toList.length + 1 := by simp; omega
  rwa [hl] at this
theorem v15_open : ∀ v ∈ V15, ∀ c ∈ v.cps.toList, c ≠ 123 := by decide +kernel
theorem names_close : ∀ v ∈ Names4, (∀ c ∈ v.cps.toList, c ≠ 125) ∧ 0 < v.cps.toList.length := by decide +kernel
theorem inn_piece {l : List Nat} (h : Inn l) {kvs : List (PySem.Str × Value)} (hg : GoodD kvs) {nm : PySem.Str} (hn : nm ∈ Names4) : Inn ((pc kvs true nm).cps.toList ++ l) := by
  unfold pc
  rw [if_pos rfl]
  rcases due_cases hg nm with e | e
  · rw [if_pos e]
    have : (PySem.Str.ofString "{" ++ nm ++ PySem.Str.ofString "}").cps.toList ++ l = 123 :: (nm.cps.toList ++ 125 :: l) := by
      simp only [PySem.Str.cps_append, Array.toList_append, List.append_assoc]
      rfl
    rw [this]
    exact inn_name h hn (names_close nm hn).1 (names_close nm hn).2
  · have hl := v15_lens _ e
    rw [if_neg (by intro e2; rw [e2] at hl; exact absurd hl (by decide))]
    exact inn_lit h (v15_open _ e)
theorem pc_len {kvs : List (PySem.Str × Value)} (hg : GoodD kvs) {nm : PySem.Str} (hn : nm ∈ Names4) (rep : Bool) : (pc kvs rep nm).length ≤ 6 := by
  have hn4 := names4_len nm hn
  have h1 : (PySem.Str.ofString "{").length = 1 := rfl
  have h2 : (PySem.Str.ofString "}").length = 1 := rfl
  have h3 : (PySem.Str.ofString "").length = 0 := rfl
  have hb : (PySem.Str.ofString "{" ++ nm ++ PySem.Str.ofString "}").length ≤ 6 := by rw [PySem.Str.length_append, PySem.Str.length_append]; omega
  have hd : (due kvs nm).length ≤ 6 := by
    rcases due_cases hg nm with e | e
    · rw [e]; omega
    · have := v15_lens _ e; omega
  unfold pc
  cases rep
  · exact hd
  · rw [if_pos rfl]
    by_cases e : due kvs nm = PySem.Str.ofString ""
    · rw [if_pos e]; exact hb
    · rw [if_neg e]; exact hd
theorem nA_in : nA ∈ Names4 := by decide +kernel
theorem nB_in : nB ∈ Names4 := by decide +kernel
theorem nL_in : nL ∈ Names4 := by decide +kernel
theorem nX_in : nX ∈ Names4 := by decide +kernel
theorem u0_res {kvs : List (PySem.Str × Value)} (hg : GoodD kvs) : (expText u0 kvs true).length ≤ 1000 ∧ ∀ q ∈ (exScan (expText u0 kvs true) 0 (expText u0 kvs true).cps.toList (none, [])).2, q.2.2 ∈ Names4 := by
  rw [expText_u0]
  constructor
  · have a := pc_len hg nA_in true
    have b := pc_len hg nB_in true
    have c := pc_len hg nL_in true
    have d := pc_len hg nX_in true
    have l1 : (PySem.Str.ofString "").length = 0 := rfl
    have l2 : (PySem.Str.ofString "/b-").length = 3 := rfl
    have l3 : (PySem.Str.ofString "?c=").length = 3 := rfl
    have l4 : (PySem.Str.ofString "&").length = 1 := rfl
    have l5 : (PySem.Str.ofString "/").length = 1 := rfl
    simp only [piece5, PySem.Str.length_append]
    omega
  · have hI : Inn (piece5 (pc kvs true)).cps.toList := by
      simp only [piece5, PySem.Str.cps_append, Array.toList_append, List.append_assoc]
      refine inn_lit ?_ (z := (PySem.Str.ofString "").cps.toList) (by decide +kernel)
      refine inn_piece ?_ hg nA_in
      refine inn_lit ?_ (z := (PySem.Str.ofString "/b-").cps.toList) (by decide +kernel)
      refine inn_piece ?_ hg nB_in
      refine inn_lit ?_ (z := (PySem.Str.ofString "?c=").cps.toList) (by decide +kernel)
      refine inn_piece ?_ hg nL_in
      refine inn_lit ?_ (z := (PySem.Str.ofString "&").cps.toList) (by decide +kernel)
      refine inn_piece ?_ hg nX_in
      refine inn_lit ?_ (z := (PySem.Str.ofString "").cps.toList) (by decide +kernel)
      refine inn_piece ?_ hg nA_in
      have := inn_lit inn_nil (z := (PySem.Str.ofString "/").cps.toList) (by decide +kernel)
      rwa [List.append_nil] at this
    exact hI _ [] [] rfl (fun q h => nomatch h)
end

section
open PySem PySem.W PyProof.Rows PySem.Spec PySem.Calls PyProof.V
section
variable {w : World} {led : Led} {mean : ExcName → Option Value} {mg mb : PySem.Str → Option Value} {dp un : Nat} {gd : Option (List Code)} {cn : PySem.Str} {cs : Scope} {a : Addr} {ccd : Value} {cl : List (PySem.Str × Addr)} {outer : List Env} {A₀ : Around} {base h₀ : Heap} {L : Addr} {m : PySem.Str → Option Value} {s : Shared} {Q E : Value → Shared → Prop}
theorem m380_dd_use {u : PySem.Str} {x d D os : Addr} {y0 : Value} {ys : List Value} {vobs : Led} {tA tB tC tu : Tok} {d1 : Addr} {o1 : Obj} {kvs1 : List (PySem.Str × Value)} {d2 : Addr} {o2 : Obj} {kvs2 : List (PySem.Str × Value)} (B : Below A₀ base outer h₀) (F : Fr h₀ L s.heap m) (X : (Mine.KF w.params).In h₀) (N : News h₀ L s.heap led) (T : Top Mine.vw LS mean mg mb h₀) (hk : cs.kind = .function) (hdp : dp + 400 < recursionLimit) (hun : un + 10 * 400 < cLine) (m1 : (d1, o1) ∈ led) (m2 : (d2, o2) ∈ led) (m3 : (x, instObj 391 d) ∈ led) (m4 : (d, tmDict w tA tB tC tu u D os) ∈ led) (m5 : (D, LCg.lst (y0 :: ys)) ∈ led) (hO : TmOk w u y0 ys vobs) (ms : ∀ p ∈ vobs, p ∈ led) (hd1 : o1.IsDictOf (PySem.strKind MProg w) kvs1) (lo1 : (d1 == sysModules) = false) (hl1 : kvs1.length ≤ 100) (hg1 : GoodD kvs1) (hd2 : o2.IsDictOf (PySem.strKind MProg w) kvs2) (lo2 : (d2 == sysModules) = false) (hl2 : kvs2.length ≤ 100) (hg2 : GoodD kvs2) (hne : d1 ≠ d2)
   (hret : ∀ kvs t h' tk', Fr h₀ L h' m → News h₀ L h' led → Over kvs1 kvs2 kvs → GoodD kvs → Q (.str (expText u kvs false) t) { s with heap := h', toks := tk' }) :
   wpAny (model MProg w) (ktrTop dp un gd cn cs L a ccd cl outer) (call (.ref 380) [.ref x, .ref d1, .ref d2]) Q E s := by
  refine Ctr.useR (m380_dd w u x d D os y0 ys vobs tA tB tC tu hO d1 o1 kvs1 hd1 lo1 hl1 hg1 d2 o2 kvs2 hd2 lo2 hl2 hg2 hne) B F X N T hk ?_ hdp hun ?_
  · intro p hp
    simp only [tmLed, List.mem_cons] at hp
    rcases hp with rfl | rfl | rfl | rfl | rfl | hp
    · exact m1
    · exact m2
    · exact m3
    · exact m4
    · exact m5
    · exact ms p hp
  · rintro r tl h' tk' F' N' ⟨rfl, kvs, t, hov, hg, rfl⟩
    exact hret kvs t h' tk' F' N' hov hg
theorem m380_dn_use {u : PySem.Str} {x d D os : Addr} {y0 : Value} {ys : List Value} {vobs : Led} {tA tB tC tu : Tok} {d1 : Addr} {o1 : Obj} {kvs1 : List (PySem.Str × Value)} (B : Below A₀ base outer h₀) (F : Fr h₀ L s.heap m) (X : (Mine.KF w.params).In h₀) (N : News h₀ L s.heap led) (T : Top Mine.vw LS mean mg mb h₀) (hk : cs.kind = .function) (hdp : dp + 400 < recursionLimit) (hun : un + 10 * 400 < cLine) (m1 : (d1, o1) ∈ led) (m3 : (x, instObj 391 d) ∈ led) (m4 : (d, tmDict w tA tB tC tu u D os) ∈ led) (m5 : (D, LCg.lst (y0 :: ys)) ∈ led) (hO : TmOk w u y0 ys vobs) (ms : ∀ p ∈ vobs, p ∈ led) (hd1 : o1.IsDictOf (PySem.strKind MProg w) kvs1) (lo1 : (d1 == sysModules) = false) (hl1 : kvs1.length ≤ 100) (hg1 : GoodD kvs1)
   (hret : ∀ kvs t h' tk', Fr h₀ L h' m → News h₀ L h' led → Over kvs1 [] kvs → GoodD kvs → Q (.str (expText u kvs false) t) { s with heap := h', toks := tk' }) :
   wpAny (model MProg w) (ktrTop dp un gd cn cs L a ccd cl outer) (call (.ref 380) [.ref x, .ref d1, .none]) Q E s := by
  refine Ctr.useR (m380_dn w u x d D os y0 ys vobs tA tB tC tu hO d1 o1 kvs1 hd1 lo1 hl1 hg1) B F X N T hk ?_ hdp hun ?_
  · intro p hp
    simp only [tmLed, List.mem_cons] at hp
    rcases hp with rfl | rfl | rfl | rfl | hp
    · exact m1
    · exact m3
    · exact m4
    · exact m5
    · exact ms p hp
  · rintro r tl h' tk' F' N' ⟨rfl, kvs, t, hov, hg, rfl⟩
    exact hret kvs t h' tk' F' N' hov hg
theorem m380_nd_use {u : PySem.Str} {x d D os : Addr} {y0 : Value} {ys : List Value} {vobs : Led} {tA tB tC tu : Tok} {d2 : Addr} {o2 : Obj} {kvs2 : List (PySem.Str × Value)} (B : Below A₀ base outer h₀) (F : Fr h₀ L s.heap m) (X : (Mine.KF w.params).In h₀) (N : News h₀ L s.heap led) (T : Top Mine.vw LS mean mg mb h₀) (hk : cs.kind = .function) (hdp : dp + 400 < recursionLimit) (hun : un + 10 * 400 < cLine) (m2 : (d2, o2) ∈ led) (m3 : (x, instObj 391 d) ∈ led) (m4 : (d, tmDict w tA tB tC tu u D os) ∈ led) (m5 : (D, LCg.lst (y0 :: ys)) ∈ led) (hO : TmOk w u y0 ys vobs) (ms : ∀ p ∈ vobs, p ∈ led) (hd2 : o2.IsDictOf (PySem.strKind MProg w) kvs2) (lo2 : (d2 == sysModules) = false) (hl2 : kvs2.length ≤ 100) (hg2 : GoodD kvs2)
   (hret : ∀ kvs t h' tk', Fr h₀ L h' m → News h₀ L h' led → Over [] kvs2 kvs → GoodD kvs → Q (.str (expText u kvs false) t) { s with heap := h', toks := tk' }) :
   wpAny (model MProg w) (ktrTop dp un gd cn cs L a ccd cl outer) (call (.ref 380) [.ref x, .none, .ref d2]) Q E s := by
  refine Ctr.useR (m380_nd w u x d D os y0 ys vobs tA tB tC tu hO d2 o2 kvs2 hd2 lo2 hl2 hg2) B F X N T hk ?_ hdp hun ?_
  · intro p hp
    simp only [tmLed, List.mem_cons] at hp
    rcases hp with rfl | rfl | rfl | rfl | hp
    · exact m2
    · exact m3
    · exact m4
    · exact m5
    · exact ms p hp
  · rintro r tl h' tk' F' N' ⟨rfl, kvs, t, hov, hg, rfl⟩
    exact hret kvs t h' tk' F' N' hov hg
theorem m380_0_use {u : PySem.Str} {x d D os : Addr} {y0 : Value} {ys : List Value} {vobs : Led} {tA tB tC tu : Tok} (B : Below A₀ base outer h₀) (F : Fr h₀ L s.heap m) (X : (Mine.KF w.params).In h₀) (N : News h₀ L s.heap led) (T : Top Mine.vw LS mean mg mb h₀) (hk : cs.kind = .function) (hdp : dp + 400 < recursionLimit) (hun : un + 10 * 400 < cLine) (m3 : (x, instObj 391 d) ∈ led) (m4 : (d, tmDict w tA tB tC tu u D os) ∈ led) (m5 : (D, LCg.lst (y0 :: ys)) ∈ led) (hO : TmOk w u y0 ys vobs) (ms : ∀ p ∈ vobs, p ∈ led)
   (hret : ∀ kvs t h' tk', Fr h₀ L h' m → News h₀ L h' led → Over [] [] kvs → GoodD kvs → Q (.str (expText u kvs false) t) { s with heap := h', toks := tk' }) :
   wpAny (model MProg w) (ktrTop dp un gd cn cs L a ccd cl outer) (call (.ref 380) [.ref x]) Q E s := by
  refine Ctr.useR (m380_0 w u x d D os y0 ys vobs tA tB tC tu hO) B F X N T hk ?_ hdp hun ?_
  · intro p hp
    simp only [tmLed, List.mem_cons] at hp
    rcases hp with rfl | rfl | rfl | hp
    · exact m3
    · exact m4
    · exact m5
    · exact ms p hp
  · rintro r tl h' tk' F' N' ⟨rfl, kvs, t, hov, hg, rfl⟩
    exact hret kvs t h' tk' F' N' hov hg
theorem m388_dd_use {u : PySem.Str} {x d D os : Addr} {y0 : Value} {ys : List Value} {vobs : Led} {tA tB tC tu : Tok} {d1 : Addr} {o1 : Obj} {kvs1 : List (PySem.Str × Value)} {d2 : Addr} {o2 : Obj} {kvs2 : List (PySem.Str × Value)} (B : Below A₀ base outer h₀) (F : Fr h₀ L s.heap m) (X : (Mine.KF w.params).In h₀) (N : News h₀ L s.heap led) (T : Top Mine.vw LS mean mg mb h₀) (hk : cs.kind = .function) (hdp : dp + 450 < recursionLimit) (hun : un + 10 * 450 < cLine) (m1 : (d1, o1) ∈ led) (m2 : (d2, o2) ∈ led) (m3 : (x, instObj 391 d) ∈ led) (m4 : (d, tmDict w tA tB tC tu u D os) ∈ led) (m5 : (D, LCg.lst (y0 :: ys)) ∈ led) (hO : TmOk w u y0 ys vobs) (ms : ∀ p ∈ vobs, p ∈ led) (hd1 : o1.IsDictOf (PySem.strKind MProg w) kvs1) (lo1 : (d1 == sysModules) = false) (hl1 : kvs1.length ≤ 100) (hg1 : GoodD kvs1) (hd2 : o2.IsDictOf (PySem.strKind MProg w) kvs2) (lo2 : (d2 == sysModules) = false) (hl2 : kvs2.length ≤ 100) (hg2 : GoodD kvs2) (hne : d1 ≠ d2)
   (hret : ∀ x' d' D' os' tA' tB' tC' tu' kvs h' tk', Fr h₀ L h' m → News h₀ L h' ((x', instObj 391 d') :: (d', tmDict w tA' tB' tC' tu' (expText u kvs true) D' os') :: led) → Over kvs1 kvs2 kvs → GoodD kvs → Q (.ref x') { s with heap := h', toks := tk' }) :
   wpAny (model MProg w) (ktrTop dp un gd cn cs L a ccd cl outer) (call (.ref 388) [.ref x, .ref d1, .ref d2]) Q E s := by
  refine Ctr.useR (m388_dd w u x d D os y0 ys vobs tA tB tC tu hO d1 o1 kvs1 hd1 lo1 hl1 hg1 d2 o2 kvs2 hd2 lo2 hl2 hg2 hne) B F X N T hk ?_ hdp hun ?_
  · intro p hp
    simp only [tmLed, List.mem_cons] at hp
    rcases hp with rfl | rfl | rfl | rfl | rfl | hp
    · exact m1
    · exact m2
    · exact m3
    · exact m4
    · exact m5
    · exact ms p hp
  · rintro r tl h' tk' F' N' ⟨kvs, hov, hg, x', d', D', os', ys', vobs', tA', tB', tC', tu', rfl, rfl, _⟩
    exact hret x' d' D' os' tA' tB' tC' tu' kvs h' tk' F' (News.sub N' (by intro p hp; simp only [List.mem_cons, List.mem_append] at hp ⊢; grind)) hov hg
theorem m388_d_use {u : PySem.Str} {x d D os : Addr} {y0 : Value} {ys : List Value} {vobs : Led} {tA tB tC tu : Tok} {d1 : Addr} {o1 : Obj} {kvs1 : List (PySem.Str × Value)} (B : Below A₀ base outer h₀) (F : Fr h₀ L s.heap m) (X : (Mine.KF w.params).In h₀) (N : News h₀ L s.heap led) (T : Top Mine.vw LS mean mg mb h₀) (hk : cs.kind = .function) (hdp : dp + 450 < recursionLimit) (hun : un + 10 * 450 < cLine) (m1 : (d1, o1) ∈ led) (m3 : (x, instObj 391 d) ∈ led) (m4 : (d, tmDict w tA tB tC tu u D os) ∈ led) (m5 : (D, LCg.lst (y0 :: ys)) ∈ led) (hO : TmOk w u y0 ys vobs) (ms : ∀ p ∈ vobs, p ∈ led) (hd1 : o1.IsDictOf (PySem.strKind MProg w) kvs1) (lo1 : (d1 == sysModules) = false) (hl1 : kvs1.length ≤ 100) (hg1 : GoodD kvs1)
   (hret : ∀ x' d' D' os' tA' tB' tC' tu' kvs h' tk', Fr h₀ L h' m → News h₀ L h' ((x', instObj 391 d') :: (d', tmDict w tA' tB' tC' tu' (expText u kvs true) D' os') :: led) → Over kvs1 [] kvs → GoodD kvs → Q (.ref x') { s with heap := h', toks := tk' }) :
   wpAny (model MProg w) (ktrTop dp un gd cn cs L a ccd cl outer) (call (.ref 388) [.ref x, .ref d1]) Q E s := by
  refine Ctr.useR (m388_d w u x d D os y0 ys vobs tA tB tC tu hO d1 o1 kvs1 hd1 lo1 hl1 hg1) B F X N T hk ?_ hdp hun ?_
  · intro p hp
    simp only [tmLed, List.mem_cons] at hp
    rcases hp with rfl | rfl | rfl | rfl | hp
    · exact m1
    · exact m3
    · exact m4
    · exact m5
    · exact ms p hp
  · rintro r tl h' tk' F' N' ⟨kvs, hov, hg, x', d', D', os', ys', vobs', tA', tB', tC', tu', rfl, rfl, _⟩
    exact hret x' d' D' os' tA' tB' tC' tu' kvs h' tk' F' (News.sub N' (by intro p hp; simp only [List.mem_cons, List.mem_append] at hp ⊢; grind)) hov hg
theorem tm_u0_use {t1 : Tok} (B : Below A₀ base outer h₀) (F : Fr h₀ L s.heap m) (X : (Mine.KF w.params).In h₀) (N : News h₀ L s.heap led) (T : Top Mine.vw LS mean mg mb h₀) (hk : cs.kind = .function) (hdp : dp + 400 < recursionLimit) (hun : un + 10 * 400 < cLine)
   (hret : ∀ x d D os y0 ys vobs tA tB tC tu h' tk', Fr h₀ L h' m → News h₀ L h' ((x, instObj 391 d) :: (d, tmDict w tA tB tC tu u0 D os) :: (D, LCg.lst (y0 :: ys)) :: (vobs ++ led)) → TmOk w u0 y0 ys vobs → Q (.ref x) { s with heap := h', toks := tk' }) :
   wpAny (model MProg w) (ktrTop dp un gd cn cs L a ccd cl outer) (call (.ref 391) [.str u0 t1]) Q E s := by
  have hin : ∀ q ∈ (exScan u0 0 u0.cps.toList (none, [])).2, q.2.2 ∈ Names4 := by rw [u0_scan]; decide +kernel
  refine tm_use (by decide +kernel) hin B F X N T hk hdp hun ?_
  rintro r tl h' tk' F' N' ⟨x, d, D, os, ys, vobs, tA, tB, tC, tu, rfl, rfl, hV⟩
  cases ys with
  | nil =>
    have := hV.len
    rw [u0_scan] at this
    cases this
  | cons y0 ys => exact hret x d D os y0 ys vobs tA tB tC tu h' tk' F' N' ⟨by decide +kernel, by rw [u0_scan]; decide, hV, fun kvs hg => u0_res hg⟩
theorem rows24 : True := by
  k_with_none
  k_with "compareOp In str str" => (k_here; first | refine in_strD (b := true) (by decide +kernel) ?_ | refine in_strD (b := false) (by decide +kernel) ?_)
  k_with "exec Assign cons ListComp" => (k_here; (with_reducible show wpAny _ _ (exec (Stmt.Assign [Expr.Attribute _ _ _] _ _) _) _ _ _); with_reducible refine plainObj_wpAny_Assign_Attribute ?_ ?_; rotate_left; with_unfolding_all rfl)
  k_with "exec For Tuple Attribute cons nil" => (k_here; (rename Fr _ _ _ _ => lF'); (with_unfolding_all refine' For_turns lF' ?_; k_whole))
  k_with "call builtin:dict.get" => (k_here; k_dflt (refine kdg_get2 (knd := PySem.strKind _ _) (by k_asm) (by k_mem) (by k_asm) (by assumption) (strKind_is _ _ _ _) _ (by assumption) ?_); (try dsimp only [Option.getD]))
  k_with "truthy str" => (k_here; refine truthy_strT (by omega) ?_)
  k_with "subscriptTail" => (k_here; k_dflt ((with_reducible show wpAny _ _ (subscriptTail _ _ (Value.ref _) (Value.str _ _)) _ _ _); refine kdt_tail (knd := PySem.strKind _ _) (by k_asm) (by k_mem) (by k_asm) ?_))
  k_with "getItem ref str" => (k_here; k_dflt (refine kdt_getItem (knd := PySem.strKind _ _) (by k_asm) (by k_mem) (by k_asm) (strKind_is _ _ _ _) (by first | assumption | rfl) ?_))
  k_with "mem" => (repeat (first | exact List.Mem.head _ | assumption | refine List.Mem.tail _ ?_))
  k_with "sub" => ((try dsimp only [List.cons_append, List.nil_append]); (repeat (refine List.forall_mem_cons.mpr ⟨by walk_at "mem", ?_⟩)); first | (intro p hp; walk_at "mem"; done) | exact fun _ h => (List.not_mem_nil h).elim)
  k_with "call ref" => (k_here; (with_reducible show wpAny _ _ (call (Value.ref 380) [Value.ref _, Value.ref _, Value.ref _]) _ _ _); k_dflt (refine m380_dd_use (by k_asm) (by k_asm) (by k_asm) (by k_asm) (by k_asm) (by first | exact rfl | assumption) (by ktr_room) (by ktr_units) (by k_mem) (by k_mem) (by k_mem) (by k_mem) (by k_mem) (by assumption) (by (intro p hp; simp only [List.mem_cons]; simp only [hp, or_true])) (by assumption) (by assumption) (by assumption) (by assumption) (by assumption) (by assumption) (by assumption) (by assumption) (by k_ne) ?_); intro kvs'q t'q h'q tk'q F'q N'q hov'q hg'q; (try k_sweep))
  k_with "call ref" => (k_here; (with_reducible show wpAny _ _ (call (Value.ref 380) [Value.ref _, Value.ref _, Value.none]) _ _ _); k_dflt (refine m380_dn_use (by k_asm) (by k_asm) (by k_asm) (by k_asm) (by k_asm) (by first | exact rfl | assumption) (by ktr_room) (by ktr_units) (by k_mem) (by k_mem) (by k_mem) (by k_mem) (by assumption) (by (intro p hp; simp only [List.mem_cons]; simp only [hp, or_true])) (by assumption) (by assumption) (by assumption) (by assumption) ?_); intro kvs'q t'q h'q tk'q F'q N'q hov'q hg'q; (try k_sweep))
  k_with "call ref" => (k_here; (with_reducible show wpAny _ _ (call (Value.ref 380) [Value.ref _, Value.none, Value.ref _]) _ _ _); k_dflt (refine m380_nd_use (by k_asm) (by k_asm) (by k_asm) (by k_asm) (by k_asm) (by first | exact rfl | assumption) (by ktr_room) (by ktr_units) (by k_mem) (by k_mem) (by k_mem) (by k_mem) (by assumption) (by (intro p hp; simp only [List.mem_cons]; simp only [hp, or_true])) (by assumption) (by assumption) (by assumption) (by assumption) ?_); intro kvs'q t'q h'q tk'q F'q N'q hov'q hg'q; (try k_sweep))
  k_with "call ref" => (k_here; (with_reducible show wpAny _ _ (call (Value.ref 380) [Value.ref _]) _ _ _); k_dflt (refine m380_0_use (by k_asm) (by k_asm) (by k_asm) (by k_asm) (by k_asm) (by first | exact rfl | assumption) (by ktr_room) (by ktr_units) (by k_mem) (by k_mem) (by k_mem) (by assumption) (by (intro p hp; simp only [List.mem_cons]; simp only [hp, or_true])) ?_); intro kvs'q t'q h'q tk'q F'q N'q hov'q hg'q; (try k_sweep))
  k_with "call ref" => (k_here; (with_reducible show wpAny _ _ (call (Value.ref 388) [Value.ref _, Value.ref _, Value.ref _]) _ _ _); k_dflt (refine m388_dd_use (by k_asm) (by k_asm) (by k_asm) (by k_asm) (by k_asm) (by first | exact rfl | assumption) (by ktr_room) (by ktr_units) (by k_mem) (by k_mem) (by k_mem) (by k_mem) (by k_mem) (by assumption) (by (intro p hp; simp only [List.mem_cons]; simp only [hp, or_true])) (by assumption) (by assumption) (by assumption) (by assumption) (by assumption) (by assumption) (by assumption) (by assumption) (by k_ne) ?_); intro x'q d'q D'q os'q tA'q tB'q tC'q tu'q kvs'q h'q tk'q F'q N'q hov'q hg'q; (try k_sweep))
  k_with "call ref" => (k_here; (with_reducible show wpAny _ _ (call (Value.ref 388) [Value.ref _, Value.ref _]) _ _ _); k_dflt (refine m388_d_use (by k_asm) (by k_asm) (by k_asm) (by k_asm) (by k_asm) (by first | exact rfl | assumption) (by ktr_room) (by ktr_units) (by k_mem) (by k_mem) (by k_mem) (by k_mem) (by assumption) (by (intro p hp; simp only [List.mem_cons]; simp only [hp, or_true])) (by assumption) (by assumption) (by assumption) (by assumption) ?_); intro x'q d'q D'q os'q tA'q tB'q tC'q tu'q kvs'q h'q tk'q F'q N'q hov'q hg'q; (try k_sweep))
  trivial
local macro_rules | `(tactic| k_all) => `(tactic| with_reducible assumption)
theorem rows25 : True := by
  k_with "call ref" => (k_here; (with_reducible show wpAny _ _ (call (Value.ref 391) _) _ _ _); refine stopAt ?_)
  trivial
theorem part_fin {h' : Heap} {tk' : Nat} {own rest : Led} {kvs1 kvs2 kvs : List (PySem.Str × Value)} {x d D os : Addr} {tA tB tC tu : Tok} (hN : News h₀ L h' ((x, instObj 391 d) :: (d, tmDict w tA tB tC tu (expText u0 kvs true) D os) :: led))
   (hret : ∀ r news' h' tk', Fr h₀ L h' m → News h₀ L h' (news' ++ rest) → RPost own (fun tl r => ∃ kvs x d D os tA tB tC tu, Over kvs1 kvs2 kvs ∧ GoodD kvs ∧ r = .ref x ∧ tl = [(x, instObj 391 d), (d, tmDict w tA tB tC tu (expText u0 kvs true) D os)]) news' r → Q r { s with heap := h', toks := tk' })
   (F : Fr h₀ L h' m) (hR : News h₀ L h' rest) (hov : Over kvs1 kvs2 kvs) (hg : GoodD kvs) (hs : ∀ p ∈ own, p ∈ led) : Q (.ref x) { s with heap := h', toks := tk' } := by
  refine hret _ ([(x, instObj 391 d), (d, tmDict w tA tB tC tu (expText u0 kvs true) D os)] ++ own) _ _ F (news_join hN hR ?_) ⟨_, rfl, kvs, x, d, D, os, tA, tB, tC, tu, hov, hg, rfl, rfl⟩
  intro p hp
  rcases List.mem_append.mp hp with hp | hp
  · rcases List.mem_cons.mp hp with rfl | hp
    · exact List.Mem.head _
    · rw [List.mem_singleton.mp hp]; exact .tail _ (.head _)
  · exact .tail _ (.tail _ (hs p hp))
theorem m403_dd (w : World) (t1 : Tok) (d1 : Addr) (o1 : Obj) (kvs1 : List (PySem.Str × Value)) (d2 : Addr) (o2 : Obj) (kvs2 : List (PySem.Str × Value)) (hd1 : o1.IsDictOf (PySem.strKind MProg w) kvs1) (lo1 : (d1 == sysModules) = false) (hl1 : kvs1.length ≤ 100) (hg1 : GoodD kvs1) (hd2 : o2.IsDictOf (PySem.strKind MProg w) kvs2) (lo2 : (d2 == sysModules) = false) (hl2 : kvs2.length ≤ 100) (hg2 : GoodD kvs2) (hne : d1 ≠ d2) :
   Ctr 500 w 403 [.str u0 t1, .ref d1, .ref d2] [(d1, o1), (d2, o2)]
     (RPost [(d1, o1), (d2, o2)] fun tl r => tl = [] ∧ MethPost u0 kvs1 kvs2 false r) := by
  intro mean mg mb dp un gd cn cs a ccd cl outer A₀ base h₀ L m rest s Q E B F X N hne T hk hdp hun hret
  refine wpAny_call ?_
  k_dflt ktr_enter
  clear N hne F
  k_steps
  show wpAny _ _ _ _ _ _
  refine tm_u0_use (by k_asm) (by k_asm) (by k_asm) (by k_asm) (by k_asm) rfl (by k_dflt ktr_room) (by k_dflt ktr_units) ?_
  intro x d D os y0 ys vobs tA tB tC tu h3 tk3 F3 N3 hO
  replace N3 := News.sub N3 (led := (x, instObj 391 d) :: (d, tmDict w tA tB tC tu u0 D os) :: (D, LCg.lst (y0 :: ys)) :: (d1, o1) :: (d2, o2) :: vobs) (by intro p hp; simp only [List.mem_cons, List.mem_append] at hp ⊢; grind)
  k_steps
  rename Over _ _ _ => hov
  rename News _ _ _ rest => hR
  revert hR
  rename News h₀ L _ _ => hN
  intro hR
  refine hret _ ([] ++ [(d1, o1), (d2, o2)]) _ _ (by k_asm) (news_join hN hR ?_) ⟨[], rfl, rfl, _, _, hov, by assumption, rfl⟩
  intro p hp
  simp only [List.mem_cons, List.mem_append, List.nil_append, List.not_mem_nil, or_false] at hp ⊢
  grind
theorem m403_d (w : World) (t1 : Tok) (d1 : Addr) (o1 : Obj) (kvs1 : List (PySem.Str × Value)) (hd1 : o1.IsDictOf (PySem.strKind MProg w) kvs1) (lo1 : (d1 == sysModules) = false) (hl1 : kvs1.length ≤ 100) (hg1 : GoodD kvs1) :
   Ctr 500 w 403 [.str u0 t1, .ref d1] [(d1, o1)]
     (RPost [(d1, o1)] fun tl r => tl = [] ∧ MethPost u0 kvs1 [] false r) := by
  intro mean mg mb dp un gd cn cs a ccd cl outer A₀ base h₀ L m rest s Q E B F X N hne T hk hdp hun hret
  refine wpAny_call ?_
  k_dflt ktr_enter
  clear N hne F
  k_steps
  show wpAny _ _ _ _ _ _
  refine tm_u0_use (by k_asm) (by k_asm) (by k_asm) (by k_asm) (by k_asm) rfl (by k_dflt ktr_room) (by k_dflt ktr_units) ?_
  intro x d D os y0 ys vobs tA tB tC tu h3 tk3 F3 N3 hO
  replace N3 := News.sub N3 (led := (x, instObj 391 d) :: (d, tmDict w tA tB tC tu u0 D os) :: (D, LCg.lst (y0 :: ys)) :: (d1, o1) :: vobs) (by intro p hp; simp only [List.mem_cons, List.mem_append] at hp ⊢; grind)
  k_steps
  rename Over _ _ _ => hov
  rename News _ _ _ rest => hR
  revert hR
  rename News h₀ L _ _ => hN
  intro hR
  refine hret _ ([] ++ [(d1, o1)]) _ _ (by k_asm) (news_join hN hR ?_) ⟨[], rfl, rfl, _, _, hov, by assumption, rfl⟩
  intro p hp
  simp only [List.mem_cons, List.mem_append, List.nil_append, List.not_mem_nil, or_false] at hp ⊢
  grind
theorem m411_dd (w : World) (t1 : Tok) (d1 : Addr) (o1 : Obj) (kvs1 : List (PySem.Str × Value)) (d2 : Addr) (o2 : Obj) (kvs2 : List (PySem.Str × Value)) (hd1 : o1.IsDictOf (PySem.strKind MProg w) kvs1) (lo1 : (d1 == sysModules) = false) (hl1 : kvs1.length ≤ 100) (hg1 : GoodD kvs1) (hd2 : o2.IsDictOf (PySem.strKind MProg w) kvs2) (lo2 : (d2 == sysModules) = false) (hl2 : kvs2.length ≤ 100) (hg2 : GoodD kvs2) (hne : d1 ≠ d2) :
   Ctr 500 w 411 [.str u0 t1, .ref d1, .ref d2] [(d1, o1), (d2, o2)]
     (RPost [(d1, o1), (d2, o2)] fun tl r => ∃ kvs x d D os tA tB tC tu, Over kvs1 kvs2 kvs ∧ GoodD kvs ∧ r = .ref x ∧ tl = [(x, instObj 391 d), (d, tmDict w tA tB tC tu (expText u0 kvs true) D os)]) := by
  intro mean mg mb dp un gd cn cs a ccd cl outer A₀ base h₀ L m rest s Q E B F X N hne T hk hdp hun hret
  refine wpAny_call ?_
  k_dflt ktr_enter
  clear N hne F
  k_steps
  show wpAny _ _ _ _ _ _
  refine tm_u0_use (by k_asm) (by k_asm) (by k_asm) (by k_asm) (by k_asm) rfl (by k_dflt ktr_room) (by k_dflt ktr_units) ?_
  intro x d D os y0 ys vobs tA tB tC tu h3 tk3 F3 N3 hO
  replace N3 := News.sub N3 (led := (x, instObj 391 d) :: (d, tmDict w tA tB tC tu u0 D os) :: (D, LCg.lst (y0 :: ys)) :: (d1, o1) :: (d2, o2) :: vobs) (by intro p hp; simp only [List.mem_cons, List.mem_append] at hp ⊢; grind)
  k_steps
  rename Over _ _ _ => hov
  rename News _ _ _ rest => hR
  revert hR
  rename News h₀ L _ _ => hN
  intro hR
  refine part_fin hN hret (by k_asm) hR hov (by assumption) ?_
  intro p hp
  simp only [List.mem_cons, List.mem_append, List.nil_append, List.not_mem_nil, or_false] at hp ⊢
  grind
end
end

section
open PySem PySem.W PyProof.Rows PySem.Spec PySem.Calls PyProof.V
section
/-- a value of the law's, without its token -/
def er : Value → Option PySem.Str
  | .str z _ => some z
  | _ => none
def erP (kvs : List (PySem.Str × Value)) : List (PySem.Str × Option PySem.Str) := kvs.map fun p => (p.1, er p.2)
def atE (ps : List (PySem.Str × Option PySem.Str)) (k : PySem.Str) : Option (Option PySem.Str) := (ps.find? fun p => p.1 = k).map (·.2)
def stoE (ps : List (PySem.Str × Option PySem.Str)) (k : PySem.Str) (v : Option PySem.Str) : List (PySem.Str × Option PySem.Str) :=
  if ps.any (fun p => p.1 = k) then ps.map (fun p => if p.1 = k then (p.1, v) else p) else ps ++ [(k, v)]
theorem at_er (kvs : List (PySem.Str × Value)) (k : PySem.Str) : (valueAt kvs k).map er = atE (erP kvs) k := by
  induction kvs with
  | nil => rfl
  | cons p r ih =>
    rw [valueAt_cons]
    unfold atE erP at *
    rw [List.map_cons, List.find?_cons]
    by_cases h : p.1 = k
    · rw [if_pos h]; simp [h]
    · rw [if_neg h, ih]; simp [h]
theorem er_stored (kvs : List (PySem.Str × Value)) (k : PySem.Str) (v : Value) : erP (stored kvs k v) = stoE (erP kvs) k (er v) := by
  have ha : (erP kvs).any (fun p => p.1 = k) = kvs.any (fun p => p.1 = k) := by unfold erP; rw [List.any_map]; rfl
  unfold stored stoE
  rw [ha]
  by_cases hc : kvs.any (fun kv => kv.1 = k) = true
  · rw [if_pos hc, if_pos hc]
    unfold erP
    rw [List.map_map, List.map_map]
    refine List.map_congr_left fun p _ => ?_
    show (((if p.1 = k then (p.1, v) else p) : PySem.Str × Value).1, er ((if p.1 = k then (p.1, v) else p) : PySem.Str × Value).2) = if p.1 = k then (p.1, er v) else (p.1, er p.2)
    by_cases h : p.1 = k
    · rw [if_pos h, if_pos h]
    · rw [if_neg h, if_neg h]
  · rw [if_neg hc, if_neg hc]
    unfold erP
    rw [List.map_append]; rfl
theorem valueAt_mem {kvs : List (PySem.Str × Value)} (hn : (kvs.map (·.1)).Nodup) : ∀ p ∈ kvs, valueAt kvs p.1 = some p.2 := by
  induction kvs with
  | nil => intro p hp; cases hp
  | cons q r ih =>
    have hn' := List.nodup_cons.mp hn
    intro p hp
    rw [valueAt_cons]
    rcases List.mem_cons.mp hp with rfl | hp
    · rw [if_pos rfl]
    · have hne : ¬ q.1 = p.1 := fun e => hn'.1 (by show q.1 ∈ _; rw [e]; exact List.mem_map_of_mem (f := (·.1)) hp)
      rw [if_neg hne]
      exact ih hn'.2 p hp
theorem eqAt_good {A : Around} {s : Shared} {v y : Value} (hv : v = .none ∨ ∃ z t, v = .str z t) (hy : y = .none ∨ ∃ z t, y = .str z t) (h : er v = er y) : SeqAt.EqAt A s v y true := by
  rcases hv with rfl | ⟨z, t, rfl⟩
  · rcases hy with rfl | ⟨z', t', rfl⟩
    · exact SeqAt.EqAt.same _
    · cases h
  · rcases hy with rfl | ⟨z', t', rfl⟩
    · cases h
    · have e : z = z' := Option.some.inj h
      subst e
      have := SeqAt.EqAt.str_str (A := A) (s := s) z t z t'
      rwa [beq_self_eq_true] at this
theorem hits_all {A : Around} {s : Shared} {kb : List (PySem.Str × Value)} : ∀ (l : List (PySem.Str × Value)), (∀ p ∈ l, ∃ y, valueAt kb p.1 = some y ∧ SeqAt.EqAt A s p.2 y true) → KeqHits A s kb l true
  | [], _ => .nil
  | (k, v) :: r, h => by
    obtain ⟨y, hy, he⟩ := h (k, v) (List.Mem.head _)
    exact KeqHits.hit hy he (hits_all r fun p hp => h p (.tail _ hp))
theorem good_vals {kvs : List (PySem.Str × Value)} (hg : GoodD kvs) {k : PySem.Str} {v : Value} (h : valueAt kvs k = some v) : v = .none ∨ ∃ z t, v = .str z t := by
  rcases hg k v h with rfl | ⟨z, t, rfl, _⟩
  · exact .inl rfl
  · exact .inr ⟨z, t, rfl⟩
/-- two dicts of the law's that hold the same are equal -/
theorem eq_law {w : World} {A : Around} {s : Shared} {E : Value → Shared → Prop} {h₀ : Heap} {L a b : Addr} {oa ob : Obj} {news : Led} {ka kb : List (PySem.Str × Value)} {Q : Value → Shared → Prop}
   (N : News h₀ L s.heap news) (pa : (a, oa) ∈ news) (pb : (b, ob) ∈ news) (da : oa.IsDictOf (PySem.strKind MProg w) ka) (db : ob.IsDictOf (PySem.strKind MProg w) kb) (la : (a == sysModules) = false) (lb : (b == sysModules) = false)
   (ga : GoodD ka) (gb : GoodD kb) (he : erP ka = erP kb) (hu : A.units < cLine) (h : Q (.bool true) s) : wpAny (model MProg w) A (compareOp .Eq (.ref a) (.ref b)) Q E s := by
  have hl : ka.length = kb.length := by have := congrArg List.length he; simpa [erP] using this
  have hna : (ka.map (·.1)).Nodup := by obtain ⟨_, _, _, _, _, _, h⟩ := da; exact h
  refine keq_pairs N pa pb da db la lb hl hu (hits_all ka fun p hp => ?_) h
  have hp2 := valueAt_mem hna p hp
  have h1 := at_er ka p.1
  have h2 := at_er kb p.1
  rw [he, ← h2, hp2] at h1
  cases hy : valueAt kb p.1 with
  | none => rw [hy] at h1; cases h1
  | some y =>
    rw [hy] at h1
    exact ⟨y, rfl, eqAt_good (good_vals ga hp2) (good_vals gb hy) (Option.some.inj h1)⟩
/-- at this program and world alone: two values are equal -/
def EqW (w : World) (A : Around) (s : Shared) (y x : Value) : Prop := ∀ (E : Value → Shared → Prop) (Q : Bool → Shared → Prop), Q true s → wpAny (model MProg w) A (eqBool y x) Q E s
theorem EqW.refs {w : World} {A : Around} {s : Shared} {a b : Addr} (hne : a ≠ b) (h : ∀ (E Q : Value → Shared → Prop), Q (.bool true) s → wpAny (model MProg w) A (compareOp .Eq (.ref a) (.ref b)) Q E s) : EqW w A s (.ref a) (.ref b) := fun E Q hq => by
  unfold eqBool
  refine wpAny_holding ?_
  refine wpAny_ite_split (fun hab => absurd (by have := eq_of_beq hab; injection this) hne) (fun _ => ?_)
  exact wpAny_bind (h E _ (wpAny_truthy_bool hq))
/-- what a built-in does at this program and world -/
def MeetsW (w : World) (t : Sem Fin) (S : PySem.Spec) : Prop :=
  ∀ (A : Around) (R : Result → Shared → Prop) (s : Shared), S A R s →
    wpAny (model MProg w) A.in1 t (fun fin s' => match fin with | .done f => R (.ok f) s' | .again c' => c'.quiet = true ∧ codeAny (model MProg w) A c' R s') (fun e s' => R (.error e) s') s
theorem loopW (w : World) (l b : Addr) (items items2 : Array Value) (n n2 : Nat) (dd dd2 : Option Addr) (sl sl2 : Array (Option Value)) (hsz : items.size = items2.size) (k : Nat) :
    ∀ i : Nat, items.size - i = k → MeetsW w (Builtin.«list.__eq__.loop» ⟨[.ref l, .ref b, rawInt i, rawInt 2], []⟩)
      (fun A R s => s.heap.get? l = some { cls := .type "list", dict := dd, data := .seq items n, slots := sl } ∧ s.heap.get? b = some { cls := .type "list", dict := dd2, data := .seq items2 n2, slots := sl2 } ∧
        (∀ j (h1 : j < items.size) (h2 : j < items2.size), EqW w A.in1 s items[j] items2[j]) ∧ R (.ok (.ret (.bool true))) s) := by
  induction k with
  | zero =>
    intro i hk A R s h
    obtain ⟨hp, g, d, tk, os⟩ := s; obtain ⟨hl, hb, he, h⟩ := h
    wp_walk using AutoSeq1.wpAny_loadPart' hl, AutoSeq1.wpAny_loadPart' hb
    have hi1 : items[((i : Nat) : Int).toNat]? = none := by simp; omega
    have hi2 : items2[((i : Nat) : Int).toNat]? = none := by simp; omega
    rw [hi1, hi2]
    wp_walk using AutoSeq1.wpAny_loadPart' hl, AutoSeq1.wpAny_loadPart' hb
    show R (.ok (.ret (.bool (items.size == items2.size)))) _
    rw [hsz, beq_self_eq_true]
    exact h
  | succ k ih =>
    intro i hk A R s h
    obtain ⟨hp, g, d, tk, os⟩ := s; obtain ⟨hl, hb, he, h⟩ := h
    wp_walk using AutoSeq1.wpAny_loadPart' hl, AutoSeq1.wpAny_loadPart' hb
    have hlt : i < items.size := by omega
    have hlt2 : i < items2.size := by omega
    have hi1 : items[((i : Nat) : Int).toNat]? = some items[i] := by simp [hlt]
    have hi2 : items2[((i : Nat) : Int).toNat]? = some items2[i] := by simp [hlt2]
    have hc : ((i : Int) + 1) = ((i + 1 : Nat) : Int) := by omega
    rw [hi1, hi2]
    refine wpAny_bind (he i hlt hlt2 _ _ ?_)
    wp_walk
    rw [hc]
    exact ⟨plainId_quiet MeetsSeq3.plain_eq_loop _, codeAny_builtin MeetsSeq3.entry_eq_loop (by
      rw [Around.under_plainId MeetsSeq3.plain_eq_loop _]
      exact ih (i + 1) (by omega) A R _ ⟨hl, hb, he, h⟩)⟩
theorem listW (w : World) (l b : Addr) (items items2 : Array Value) (n n2 : Nat) (dd dd2 : Option Addr) (sl sl2 : Array (Option Value)) (hsz : items.size = items2.size) :
    MeetsW w (Builtin.«list.__eq__» ⟨[.ref l, .ref b], []⟩)
      (fun A R s => s.heap.get? l = some { cls := .type "list", dict := dd, data := .seq items n, slots := sl } ∧ s.heap.get? b = some { cls := .type "list", dict := dd2, data := .seq items2 n2, slots := sl2 } ∧
        (∀ j (h1 : j < items.size) (h2 : j < items2.size), EqW w A.in1 s items[j] items2[j]) ∧ R (.ok (.ret (.bool true))) s) := by
  intro A R s h
  obtain ⟨hp, g, d, tk, os⟩ := s; obtain ⟨hl, hb, he, h⟩ := h
  have f3 := AutoSeq1.sub_list_list
  have hne : ¬ (items.size != items2.size) = true := by simp [hsz]
  wp_walk using AutoSeq1.wpAny_loadPart' hl, AutoSeq1.wpAny_loadPart' hb
  exact ⟨plainId_quiet MeetsSeq3.plain_eq_loop _, codeAny_builtin MeetsSeq3.entry_eq_loop (by
    rw [Around.under_plainId MeetsSeq3.plain_eq_loop _]
    exact loopW w l b items items2 n n2 dd dd2 sl sl2 hsz _ 0 rfl A R _ ⟨hl, hb, he, h⟩)⟩
/-- two lists of two dicts of the law's -/
theorem eq_pairs {w : World} {A : Around} {s : Shared} {E : Value → Shared → Prop} {h₀ : Heap} {L l1 l2 a1 b1 a2 b2 : Addr} {oa1 ob1 oa2 ob2 : Obj} {n1 n2 : Nat} {news : Led} {ka1 kb1 ka2 kb2 : List (PySem.Str × Value)} {Q : Value → Shared → Prop}
   (N : News h₀ L s.heap news) (hu : A.in1.units + 64 < cLine) (p1 : (l1, W.listOf #[.ref a1, .ref b1] n1) ∈ news) (p2 : (l2, W.listOf #[.ref a2, .ref b2] n2) ∈ news)
   (pa1 : (a1, oa1) ∈ news) (pb1 : (b1, ob1) ∈ news) (pa2 : (a2, oa2) ∈ news) (pb2 : (b2, ob2) ∈ news)
   (da1 : oa1.IsDictOf (PySem.strKind MProg w) ka1) (db1 : ob1.IsDictOf (PySem.strKind MProg w) kb1) (da2 : oa2.IsDictOf (PySem.strKind MProg w) ka2) (db2 : ob2.IsDictOf (PySem.strKind MProg w) kb2)
   (la1 : (a1 == sysModules) = false) (lb1 : (b1 == sysModules) = false) (la2 : (a2 == sysModules) = false) (lb2 : (b2 == sysModules) = false)
   (ga1 : GoodD ka1) (gb1 : GoodD kb1) (ga2 : GoodD ka2) (gb2 : GoodD kb2) (hne1 : a1 ≠ a2) (hne2 : b1 ≠ b2) (he1 : erP ka1 = erP ka2) (he2 : erP kb1 = erP kb2)
   (h : Q (.bool true) s) : wpAny (model MProg w) A (compareOp .Eq (.ref l1) (.ref l2)) Q E s := by
  have h1 := (N _ p1).1
  have h2 := (N _ p2).1
  have hu0 : A.units < cLine := by have : A.units ≤ A.in1.units := Nat.le_succ _; omega
  have hu1 : A.in1.units < cLine := by omega
  have hu2 : A.in1.in1.units < cLine := by have : A.in1.in1.units = A.in1.units + 1 := rfl; omega
  refine wpAny_richCompare_same_room (op := .Eq) ⟨_, h1, rfl⟩ ⟨_, h2, rfl⟩ F.slot_list_eq (wpAny_call (codeAny_call_builtin F.slot_list_eq.plain F.entry_list_eq (F.slot_list_eq.check _ _ _ _ _ _ _ _ ⟨_, h1, rfl⟩ (F.args_list_eq_2 _ _) (listW w l1 l2 #[.ref a1, .ref b1] #[.ref a2, .ref b2] n1 n2 none none #[] #[] rfl A (wants (fun v s' => v ≠ .notImplemented ∧ Q v s') E) s ⟨h1, h2, ?_, (fun x => nomatch x), h⟩)))) hu0
  intro j j1 j2
  have hj : j < 2 := j1
  match j, hj with
  | 0, _ => exact EqW.refs hne1 fun E' Q' hq => eq_law N pa1 pa2 da1 da2 la1 la2 ga1 ga2 he1 hu1 hq
  | 1, _ => exact EqW.refs hne2 fun E' Q' hq => eq_law N pb1 pb2 db1 db2 lb1 lb2 gb1 gb2 he2 hu1 hq
end
end

section
open PySem PySem.W PyProof.Rows PySem.Spec PySem.Calls PyProof.V
section
/-- a def is entered with nothing of the ledger; what there was stands in the ground heap -/
theorem code_defG {prog : Program} {w : World} {A A₀ : Around} {s : Shared} {K : Frag} {L : Addr} {h₀ base : Heap} {m mg mb : PySem.Str → Option Value} {rest : List (Addr × Obj)} {p : Program} {loose : List PySem.Str} {mean : ExcName → Option Value} {env : Env} {outer : List Env} {R : Result → Shared → Prop} {name qual : PySem.Str} {params : Arguments} {body : List Stmt} {scope : Scope} {dV kV doc pm cdv ct oc : Value} {an od : Option Addr} {osl : Array (Option Value)} {f : Addr} {args : Args} {binds : List (PySem.Str × Value)}
    (Nr : News h₀ L s.heap rest)
    (B : Below A₀ base outer h₀) (F : Fr h₀ L s.heap m) (X₀ : K.In h₀) (T : Top p loose mean mg mb h₀) (hA : A.frames = some (env :: outer)) (hf : env.frame = some L) (hke : env.scope.kind = .function)
    (ho : K.lookup f = some ⟨oc, od, .func (fnOf name qual params body scope dV kV doc pm an cdv ct), osl⟩) (hcd : codeIn K cdv qual = true) (hroom : A.depth < recursionLimit)
    (hbind : BindsTo s (fnOf name qual params body scope dV kV doc pm an cdv ct) args binds) (hloc : ∀ y ∈ binds, scope.names.lookup y.1 = some .local)
    (h : ∀ g L' h₁, Fr h₀ L g m → Fr g L' h₁ (fun y => binds.reverse.lookup y) → (∀ p ∈ rest, g.get? p.1 = some p.2) → News g L' h₁ [] → Below A base (env :: outer) g → K.In g → Top p loose mean mg mb g →
      wpAny (model prog w) (A.deeper (envOf qual scope L' f cdv)) (execs body (envOf qual scope L' f cdv))
        (fun fl s' => LeaveK h₀ L m g (fun r s'' => News h₀ L s''.heap rest → R r s'') (match fl with | .ret v => v | _ => .none) s')
        (fun e s' => wpAny (model prog w) (A.deeper (envOf qual scope L' f cdv)) (leaving (envOf qual scope L' f cdv) e) (fun _ s'' => R (.error e) s'') (fun e' s'' => R (.error e') s'') s')
        { s with heap := h₁, toks := s.toks + binds.length })
    (hco : scope.isCoroutine = false) (hgen : scope.isGenerator = false) (hk : scope.kind = .function)
    (hcell : ∀ x ∈ scope.names, x.2 ≠ .cell) : codeAny (model prog w) A (.call (.ref f) args) R s := by
  obtain ⟨FG, BG, st, lv⟩ := groundX (R := fun r s'' => News h₀ L s''.heap rest → R r s'') B F (fun (_ : Addr × Obj) (h : _ ∈ ([] : List (Addr × Obj))) => nomatch h) hA hf hke
  refine codeAny_call_def (fd := fnX name qual params body scope [] dV kV doc pm an cdv ct) (body := body) (binds := binds) hroom ((X₀.keeps F.keep) _ _ ho) rfl (T.nolimit.keeps F.keep) (codeRec_of (X₀.keeps F.keep) hcd) rfl hbind hcell hloc (fun h₁ hns hk₁ => ?_) hco hgen hk
  refine wpAny_mono (h _ s.heap.objs.size h₁ FG ⟨hns, fun b o e => hk₁ b o (of_hideAll _ e), Nat.le_of_eq (hideAll_size _ _)⟩ (fun p hp => hideAll_get _ (Nr p hp).1 (fun h => nomatch h)) (fun _ h => nomatch h) BG (X₀.keeps st) (T.keeps st)) (fun fl s' hl => ?_) fun _ _ y => y
  refine lv _ _ hl ?_
  obtain ⟨L', m', news', F', _, _⟩ := hl
  exact fun p hp => ⟨F'.keep _ _ (hideAll_get _ (Nr p hp).1 (fun h => nomatch h)), (Nr p hp).2⟩
/-- the menu of texts -/
def menuS : List PySem.Str := [PySem.Str.ofString "v", PySem.Str.ofString "W7", PySem.Str.ofString "z-z", PySem.Str.ofString "0_", PySem.Str.ofString "q.~"]
theorem rows26 : True := by
  k_with_none
  k_with "compareOp In str str" => (k_here; first | refine in_strD (b := true) (by decide +kernel) ?_ | refine in_strD (b := false) (by decide +kernel) ?_)
  k_with "exec Assign cons ListComp" => (k_here; (with_reducible show wpAny _ _ (exec (Stmt.Assign [Expr.Attribute _ _ _] _ _) _) _ _ _); with_reducible refine plainObj_wpAny_Assign_Attribute ?_ ?_; rotate_left; with_unfolding_all rfl)
  k_with "exec For Tuple Attribute cons nil" => (k_here; (rename Fr _ _ _ _ => lF'); (with_unfolding_all refine' For_turns lF' ?_; k_whole))
  k_with "call builtin:dict.get" => (k_here; k_dflt (refine kdg_get2 (knd := PySem.strKind _ _) (by k_asm) (by k_mem) (by k_asm) (by assumption) (strKind_is _ _ _ _) _ (by assumption) ?_); (try dsimp only [Option.getD]))
  k_with "truthy str" => (k_here; refine truthy_strT (by omega) ?_)
  k_with "subscriptTail" => (k_here; k_dflt ((with_reducible show wpAny _ _ (subscriptTail _ _ (Value.ref _) (Value.str _ _)) _ _ _); refine kdt_tail (knd := PySem.strKind _ _) (by k_asm) (by k_mem) (by k_asm) ?_))
  k_with "getItem ref str" => (k_here; k_dflt (refine kdt_getItem (knd := PySem.strKind _ _) (by k_asm) (by k_mem) (by k_asm) (strKind_is _ _ _ _) (by first | assumption | rfl) ?_))
  k_with "mem" => (repeat (first | exact List.Mem.head _ | assumption | refine List.Mem.tail _ ?_))
  k_with "sub" => ((try dsimp only [List.cons_append, List.nil_append]); (repeat (refine List.forall_mem_cons.mpr ⟨by walk_at "mem", ?_⟩)); first | (intro p hp; walk_at "mem"; done) | exact fun _ h => (List.not_mem_nil h).elim)
  k_with "exec For Name Subscript cons nil" => (k_here; (rename Fr _ _ _ _ => lF'q); (with_unfolding_all refine For_invVF lF'q (by exact rfl) (by exact rfl) ?_; k_whole))
  k_with "pyIter ref" => (k_here; (with_reducible show wpAny _ _ (pyIter (Value.ref _)) (fun it s₂ => LoopAtV _ _ _ _ _ _ _ _ _ it s₂) _ _); (rename Fr _ _ _ _ => lF'q); (rename News _ _ _ _ => lN'q); (with_unfolding_all refine iter_listH (by rfl) lF'q lN'q (by k_mem) (by rfl) (by rfl) ?_); clear lF'q lN'q)
  trivial
theorem stopE {P : Prop} (h : Hold P) : P := h
theorem goOn {P : Prop} (h : P) : Hold P := h
theorem rows27 : True := by
  k_with "UnrEnd" => (refine stopE ?_)
  trivial
/-- a dict of the law's while it is filled -/
def DOk (w : World) (o : Obj) (k : List (PySem.Str × Value)) (n : Nat) : Prop := o.IsDictOf (PySem.strKind MProg w) k ∧ GoodD k ∧ k.length ≤ n
def namesL : List PySem.Str := [PySem.Str.ofString "a", PySem.Str.ofString "b", PySem.Str.ofString "list", PySem.Str.ofString "x.y"]
def valT (n : Int) : PySem.Str := menuS.getD ((n.fdiv 32).fmod 5).toNat PySem.Str.empty ++ PySem.Str.ofString (toString ((n.fdiv 8).fmod 4))
def valS (n : Int) : Option PySem.Str := if 0 < (n.fdiv 8).fmod 4 then some (valT n) else none
def dstep (p : List (PySem.Str × Option PySem.Str) × List (PySem.Str × Option PySem.Str)) (n : Int) : List (PySem.Str × Option PySem.Str) × List (PySem.Str × Option PySem.Str) :=
  if n.fmod 2 = 0 then (stoE p.1 (namesL.getD ((n.fdiv 2).fmod 4).toNat PySem.Str.empty) (valS n), p.2) else (p.1, stoE p.2 (namesL.getD ((n.fdiv 2).fmod 4).toNat PySem.Str.empty) (valS n))
theorem fm5 (n : Int) : n.fmod 5 = 0 ∨ n.fmod 5 = 1 ∨ n.fmod 5 = 2 ∨ n.fmod 5 = 3 ∨ n.fmod 5 = 4 := by
  have h1 := Int.fmod_nonneg_of_pos n (show (0 : Int) < 5 by decide)
  have h2 := Int.fmod_lt_of_pos n (show (0 : Int) < 5 by decide)
  omega
theorem fm4 (n : Int) : n.fmod 4 = 0 ∨ n.fmod 4 = 1 ∨ n.fmod 4 = 2 ∨ n.fmod 4 = 3 := by
  have h1 := Int.fmod_nonneg_of_pos n (show (0 : Int) < 4 by decide)
  have h2 := Int.fmod_lt_of_pos n (show (0 : Int) < 4 by decide)
  omega
theorem valT_in (n : Int) (h : 0 < (n.fdiv 8).fmod 4) : valT n ∈ V15 := by
  unfold valT
  rcases fm5 (n.fdiv 32) with e | e | e | e | e <;> rcases fm4 (n.fdiv 8) with f | f | f | f <;> first | (exfalso; rw [f] at h; exact absurd h (by decide)) | (rw [e, f]; decide +kernel)
theorem valT_len (n : Int) : (menuS.getD ((n.fdiv 32).fmod 5).toNat PySem.Str.empty).length + (PySem.Str.ofString (toString ((n.fdiv 8).fmod 4))).length ≤ 10000 := by
  rcases fm5 (n.fdiv 32) with e | e | e | e | e <;> rcases fm4 (n.fdiv 8) with f | f | f | f <;> rw [e, f] <;> decide +kernel
theorem good_stored {k : List (PySem.Str × Value)} (hg : GoodD k) (nm : PySem.Str) {v : Value} (hv : v = .none ∨ ∃ z t, v = .str z t ∧ z ∈ V15) : GoodD (stored k nm v) := by
  intro nm2 v2 h2
  rw [valueAt_stored] at h2
  by_cases h : nm = nm2
  · rw [if_pos h] at h2
    cases h2
    exact hv
  · rw [if_neg h] at h2
    exact hg _ _ h2
theorem dok_stored {w : World} {o : Obj} {k : List (PySem.Str × Value)} {nm : PySem.Str} {v : Value} {n : Nat} (hd : o.IsDictOf (PySem.strKind MProg w) (stored k nm v)) (hg : GoodD k) (hl : k.length ≤ n) (hv : v = .none ∨ ∃ z t, v = .str z t ∧ z ∈ V15) : DOk w o (stored k nm v) (n + 1) :=
  ⟨hd, good_stored hg nm hv, Nat.le_trans (stored_length_le _ _ _) (Nat.succ_le_succ hl)⟩
theorem step_a {k1 k2 : List (PySem.Str × Value)} {pre : List Int} {n : Int} {v : Value} (hf : (erP k1, erP k2) = pre.foldl dstep ([], [])) (h : n.fmod 2 = 0) (hv : er v = valS n) :
   (erP (stored k1 (namesL.getD ((n.fdiv 2).fmod 4).toNat PySem.Str.empty) v), erP k2) = (pre ++ [n]).foldl dstep ([], []) := by
  rw [List.foldl_append, ← hf]
  show _ = dstep _ n
  unfold dstep
  rw [if_pos h, er_stored, hv]
theorem step_b {k1 k2 : List (PySem.Str × Value)} {pre : List Int} {n : Int} {v : Value} (hf : (erP k1, erP k2) = pre.foldl dstep ([], [])) (h : n.fmod 2 = 1) (hv : er v = valS n) :
   (erP k1, erP (stored k2 (namesL.getD ((n.fdiv 2).fmod 4).toNat PySem.Str.empty) v)) = (pre ++ [n]).foldl dstep ([], []) := by
  rw [List.foldl_append, ← hf]
  show _ = dstep _ n
  unfold dstep
  rw [if_neg (by rw [h]; decide), er_stored, hv]
theorem rows28 : True := by
  k_with "setItem ref str" => (k_here; k_dflt (refine kda_set (knd := PySem.strKind _ _) (by k_asm) (by k_asm) (by k_updF) (by k_asm) (strKind_is _ _ _ _) (by (rw [sizeLine_eq]; first | exact Nat.zero_le _ | omega)) ?_); intro h'q o'q F'q N'q hd'q; (try dsimp only at N'q))
  k_with "binaryOp Add str str" => (k_here; k_dflt (refine add_strB (by assumption) ?_); intro _ _)
  trivial
variable {w : World} {led : Led} {mean : ExcName → Option Value} {mg mb : PySem.Str → Option Value} {dp un : Nat} {gd : Option (List Code)} {cn : PySem.Str} {cs : Scope} {a : Addr} {ccd : Value} {cl : List (PySem.Str × Addr)} {outer : List Env} {A₀ : Around} {base h₀ : Heap} {L : Addr} {m : PySem.Str → Option Value} {s : Shared} {Q E : Value → Shared → Prop}
theorem law_dicts {scr : Addr} {vs : List Value} {ns : List Int} (hs : h₀.IsList scr vs.toArray) (hia : IntsAre vs ns) (hn : ns.length ≤ 63) (B : Below A₀ base outer h₀) (F : Fr h₀ L s.heap m) (X : (Mine.KF w.params).In h₀) (N : News h₀ L s.heap led) (T : Top Mine.vw LS mean mg mb h₀) (hk : cs.kind = .function) (hdp : dp + 20 < recursionLimit) (hun : un + 10 * 20 < cLine)
   (hret : ∀ l d1 d2 o1 o2 k1 k2 h' tk', Fr h₀ L h' m → News h₀ L h' ((l, W.listOf #[.ref d1, .ref d2] 0) :: (d2, o2) :: (d1, o1) :: led) → d1 ≠ d2 → (d1 == sysModules) = false → (d2 == sysModules) = false → (∀ p ∈ led, p.1 ≠ d1 ∧ p.1 ≠ d2) →
      DOk w o1 k1 100 → DOk w o2 k2 100 → (erP k1, erP k2) = (ns.take 20).foldl dstep ([], []) → Q (.ref l) { s with heap := h', toks := tk' }) :
   wpAny (model MProg w) (ktrTop dp un gd cn cs L a ccd cl outer) (call (.ref 426) [.ref scr]) Q E s := by
  refine wpAny_call ?_
  k_dflt (refine' code_defG N ?k1 ?k2 ?k3 ?k5 ?kA ?kF ?kK ?k6 ?k7 ?k8 ?k9 ?kB ?_ ?c2 ?c3 ?c4 ?c5; (case kA => exact rfl); (case kF => exact rfl); (case kK => first | exact rfl | assumption); (case k1 => k_asm); (case k2 => k_asm); (case k3 => k_asm); (case k5 => k_asm); (case k6 => k_is); (case k7 => k_is); (case k8 => ktr_room); (case k9 => first | exact BindsTo.of_eq rfl | exact binds_K (by k_in) rfl (by k_is) rfl rfl rfl | fail "ktr_enter: no rule for these arguments"); (case c5 => decide); (case kB => exact locs rfl); (case c2 => exact rfl); (case c3 => exact rfl); (case c4 => exact rfl); k_whole)
  intro g' L' h' FG' F' hold N' B' X' T'
  (try dsimp only); (try k_fold)
  have hs2 := hs.at fun o e => FG'.keep scr o e
  clear F N
  k_steps
  rename_i dA hA oA loA sdA fsA idA fiA _ dB hB oB loB sdB fsB idB fiB ltAB l' hC0 ltl hD D ws hE hI hC hL ltD
  refine fun I l1 => ?_
  have iD : @LT.lt Nat _ D I := l1 (D, W.listOf ws.toArray 0) (List.Mem.head _)
  obtain ⟨J, hJ⟩ : ∃ J : List Value → (PySem.Str → Option Value) → Led → Prop, ∀ l m news, J l m news ↔ (∃ pre post o1 o2 k1 k2, ns.take 20 = pre ++ post ∧ IntsAre l post ∧ m (PySem.Str.ofString "dicts") = some (.ref l') ∧ news = [(D, W.listOf ws.toArray 0), (l', W.listOf #[.ref dA, .ref dB] 0), (dB, o2), (dA, o1)] ∧
     DOk w o1 k1 pre.length ∧ DOk w o2 k2 pre.length ∧ (erP k1, erP k2) = pre.foldl dstep ([], [])) := ⟨_, fun _ _ _ => Iff.rfl⟩
  refine list_ind J ?_ ?_ _ _ _ ?_
  · rintro m news hj h tk F' N'
    obtain ⟨pre, post, o1, o2, k1, k2, hpp, hia, hm1, rfl, hd1, hd2, hf⟩ := (hJ _ _ _).mp hj
    clear hj
    cases hia
    rw [List.append_nil] at hpp
    rw [mput_self hm1] at F'
    k_steps
    rename News _ _ _ led => hR
    revert hR
    rename News h₀ L _ _ => hN
    intro hR
    have hlen : pre.length ≤ 100 := by have := congrArg List.length hpp; rw [← this]; rw [List.length_take]; omega
    refine hret l' dA dB o1 o2 k1 k2 _ _ (by k_asm) ?_ (Nat.ne_of_lt ltAB) loA loB ?_ ⟨hd1.1, hd1.2.1, Nat.le_trans hd1.2.2 hlen⟩ ⟨hd2.1, hd2.2.1, Nat.le_trans hd2.2.2 hlen⟩ (by rw [hpp]; exact hf)
    · exact news_join (own := [(l', W.listOf #[.ref dA, .ref dB] 0), (dB, o2), (dA, o1)]) hN hR fun p hp => List.mem_cons_of_mem _ hp
    · intro p hp
      have h1 := hold p hp
      have h2 := (N' (dA, o1) (by simp)).2.2
      have h3 := (N' (dB, o2) (by simp)).2.2
      exact ⟨fun e => (by rw [e] at h1; rw [h1] at h2; cases h2), fun e => (by rw [e] at h1; rw [h1] at h3; cases h3)⟩
  · rintro v r m news hj it h tk hc F' N'
    obtain ⟨pre, post, o1, o2, k1, k2, hpp, hia, hm1, rfl, hd1, hd2, hf⟩ := (hJ _ _ _).mp hj
    clear hj
    cases hia with
    | @cons k tk4 _ post hia =>
    obtain ⟨hd1, hg1, hl1⟩ := hd1
    obtain ⟨hd2, hg2, hl2⟩ := hd2
    have hlen : pre.length ≤ 100 := by have := congrArg List.length hpp; rw [List.length_take, List.length_append] at this; omega
    have hvl := valT_len k
    unfold menuS at hvl
    rw [mput_self hm1] at F'
    have hpp' : ns.take 20 = (pre ++ [k]) ++ post := by rw [hpp]; simp
    have il : @LT.lt Nat _ l' I := Nat.lt_trans ltD.1 iD
    have iB : @LT.lt Nat _ dB I := Nat.lt_trans ltD.2.1 iD
    have iA : @LT.lt Nat _ dA I := Nat.lt_trans ltD.2.2 iD
    have hoff : ∀ oa ob, ∀ p ∈ ([(D, W.listOf ws.toArray 0), (l', W.listOf #[.ref dA, .ref dB] 0), (dB, ob), (dA, oa)] : Led), p.1 ≠ I := by
      intro oa ob p hp
      simp only [List.mem_cons, List.not_mem_nil, or_false] at hp
      rcases hp with rfl | rfl | rfl | rfl
      · exact Nat.ne_of_lt iD
      · exact Nat.ne_of_lt il
      · exact Nat.ne_of_lt iB
      · exact Nat.ne_of_lt iA
    have hpl : (pre ++ [k]).length = pre.length + 1 := by simp
    have hsame : ∀ {o : Obj} {kk : List (PySem.Str × Value)}, DOk w o kk pre.length → DOk w o kk (pre ++ [k]).length := fun h => ⟨h.1, h.2.1, Nat.le_trans h.2.2 (by simp)⟩
    k_with "table" => skip
    k_steps
    all_goals
      refine goOn ?_
      rename Obj.IsDictOf _ _ (stored _ _ _) => hdd
      rename News _ _ _ _ => hNN
    · rename 0 < _ => hpos
      rename _ = (0 : Int) => hz
      refine ⟨_, _, _, [(D, W.listOf ws.toArray 0), (l', W.listOf #[.ref dA, .ref dB] 0), (dB, o2), (dA, _)], rfl, (by k_asm), (fun p hp => hNN p (List.mem_cons_of_mem _ hp)), hoff _ _, List.Mem.head _, (hJ _ _ _).mpr ⟨pre ++ [k], post, _, o2, _, k2, hpp', hia, rfl, rfl, (by rw [hpl]; exact dok_stored hdd hg1 hl1 (.inr ⟨_, _, rfl, valT_in k hpos⟩)), hsame ⟨hd2, hg2, hl2⟩, step_a hf hz ?_⟩⟩
      unfold valS; rw [if_pos hpos]; rfl
    · rename 0 < _ => hpos
      rename _ = (1 : Int) => hz
      refine ⟨_, _, _, [(D, W.listOf ws.toArray 0), (l', W.listOf #[.ref dA, .ref dB] 0), (dB, _), (dA, o1)], rfl, (by k_asm), (fun p hp => hNN p (List.mem_cons_of_mem _ hp)), hoff _ _, List.Mem.head _, (hJ _ _ _).mpr ⟨pre ++ [k], post, o1, _, k1, _, hpp', hia, rfl, rfl, hsame ⟨hd1, hg1, hl1⟩, (by rw [hpl]; exact dok_stored hdd hg2 hl2 (.inr ⟨_, _, rfl, valT_in k hpos⟩)), step_b hf hz ?_⟩⟩
      unfold valS; rw [if_pos hpos]; rfl
    · have hpos : ¬ 0 < (k.fdiv 8).fmod 4 := by assumption
      rename _ = (0 : Int) => hz
      refine ⟨_, _, _, [(D, W.listOf ws.toArray 0), (l', W.listOf #[.ref dA, .ref dB] 0), (dB, o2), (dA, _)], rfl, (by k_asm), hNN, hoff _ _, List.Mem.head _, (hJ _ _ _).mpr ⟨pre ++ [k], post, _, o2, _, k2, hpp', hia, rfl, rfl, (by rw [hpl]; exact dok_stored hdd hg1 hl1 (.inl rfl)), hsame ⟨hd2, hg2, hl2⟩, step_a hf hz ?_⟩⟩
      unfold valS; rw [if_neg hpos]; rfl
    · have hpos : ¬ 0 < (k.fdiv 8).fmod 4 := by assumption
      rename _ = (1 : Int) => hz
      refine ⟨_, _, _, [(D, W.listOf ws.toArray 0), (l', W.listOf #[.ref dA, .ref dB] 0), (dB, _), (dA, o1)], rfl, (by k_asm), hNN, hoff _ _, List.Mem.head _, (hJ _ _ _).mpr ⟨pre ++ [k], post, o1, _, k1, _, hpp', hia, rfl, rfl, hsame ⟨hd1, hg1, hl1⟩, (by rw [hpl]; exact dok_stored hdd hg2 hl2 (.inl rfl)), step_b hf hz ?_⟩⟩
      unfold valS; rw [if_neg hpos]; rfl
  · exact (hJ _ _ _).mpr ⟨[], _, _, _, [], [], rfl, (by rw [List.toList_toArray]; exact hI), rfl, rfl, ⟨sdA, (fun _ _ h => nomatch h), Nat.le_refl _⟩, ⟨sdB, (fun _ _ h => nomatch h), Nat.le_refl _⟩, rfl⟩
end
end

section
open PySem PySem.W PyProof.Rows PySem.Spec PySem.Calls PyProof.V
section
variable {w : World} {led : Led} {mean : ExcName → Option Value} {mg mb : PySem.Str → Option Value} {dp un : Nat} {gd : Option (List Code)} {cn : PySem.Str} {cs : Scope} {a : Addr} {ccd : Value} {cl : List (PySem.Str × Addr)} {outer : List Env} {A₀ : Around} {base h₀ : Heap} {L : Addr} {m : PySem.Str → Option Value} {s : Shared} {Q E : Value → Shared → Prop}
theorem ov2 {k1 k2 kvs : List (PySem.Str × Value)} (h : Over k1 k2 kvs) : ∀ z, rowsAt none [k1, k2] z = valueAt kvs z := fun z => by
  rw [h.1 z]
  show (valueAt k2 z).or ((valueAt k1 z).or none) = _
  cases valueAt k2 z <;> cases valueAt k1 z <;> rfl
theorem ov1 {k1 kvs : List (PySem.Str × Value)} (h : Over k1 [] kvs) : ∀ z, rowsAt none [k1] z = valueAt kvs z := fun z => by
  rw [h.1 z]
  show (valueAt k1 z).or none = (none : Option Value).or (valueAt k1 z)
  cases valueAt k1 z <;> rfl
theorem ov1b {k2 kvs : List (PySem.Str × Value)} (h : Over [] k2 kvs) : ∀ z, rowsAt none [k2] z = valueAt kvs z := fun z => by
  rw [h.1 z]
  rfl
theorem ov0 {kvs : List (PySem.Str × Value)} (h : Over [] [] kvs) : ∀ z, rowsAt none [] z = valueAt kvs z := fun z => by
  rw [h.1 z]
  rfl
/-- what the whole template stands on -/
def WholeTl (w : World) (D : Addr) (tl : Led) : Prop := ∃ y0 ys vobs, tl = (D, LCg.lst (y0 :: ys)) :: vobs ∧ TmOk w u0 y0 ys vobs
theorem whole_use {t1 : Tok} (B : Below A₀ base outer h₀) (F : Fr h₀ L s.heap m) (X : (Mine.KF w.params).In h₀) (N : News h₀ L s.heap led) (T : Top Mine.vw LS mean mg mb h₀) (hk : cs.kind = .function) (hdp : dp + 400 < recursionLimit) (hun : un + 10 * 400 < cLine)
   (hret : ∀ x d D os tA tB tC tu tl h' tk', Fr h₀ L h' m → News h₀ L h' ((x, instObj 391 d) :: (d, tmDict w tA tB tC tu u0 D os) :: (led ++ tl)) → WholeTl w D tl → Q (.ref x) { s with heap := h', toks := tk' }) :
   wpAny (model MProg w) (ktrTop dp un gd cn cs L a ccd cl outer) (call (.ref 391) [.str u0 t1]) Q E s := by
  refine tm_u0_use B F X N T hk hdp hun ?_
  intro x d D os y0 ys vobs tA tB tC tu h' tk' F' N' hO
  refine hret x d D os tA tB tC tu ((D, LCg.lst (y0 :: ys)) :: vobs) h' tk' F' (News.sub N' ?_) ⟨y0, ys, vobs, rfl, hO⟩
  intro p hp
  simp only [List.mem_cons, List.mem_append] at hp ⊢
  grind
theorem due_use {nn : Nat} {rl : Addr} {refs : List Value} {rows : Led} {left : Bool} {ks : List (List (PySem.Str × Value))} (hrows : Rows w rows refs ks) (B : Below A₀ base outer h₀) (F : Fr h₀ L s.heap m) (X : (Mine.KF w.params).In h₀) (N : News h₀ L s.heap led) (T : Top Mine.vw LS mean mg mb h₀) (hk : cs.kind = .function) (hdp : dp + 60 < recursionLimit) (hun : un + 10 * 60 < cLine) (m0 : (rl, W.listOf refs.toArray nn) ∈ led) (ms : ∀ p ∈ rows, p ∈ led)
   (hret : ∀ t h' tk', Fr h₀ L h' m → News h₀ L h' led → Q (.str (dueAll ks left) t) { s with heap := h', toks := tk' }) :
   wpAny (model MProg w) (ktrTop dp un gd cn cs L a ccd cl outer) (call (.ref 433) [.ref rl, .bool left]) Q E s := by
  refine Ctr.useR (law_due w nn rl refs rows left ks hrows) B F X N T hk ?_ hdp hun ?_
  · intro p hp
    rcases List.mem_cons.mp hp with rfl | hp
    · exact m0
    · exact ms p hp
  · rintro r tl h' tk' F' N' ⟨rfl, t, rfl⟩
    exact hret t h' tk' F' N'
theorem due2_use {nn : Nat} {rl : Addr} {left : Bool} {d1 d2 : Addr} {o1 o2 : Obj} {k1 k2 : List (PySem.Str × Value)} (B : Below A₀ base outer h₀) (F : Fr h₀ L s.heap m) (X : (Mine.KF w.params).In h₀) (N : News h₀ L s.heap led) (T : Top Mine.vw LS mean mg mb h₀) (hk : cs.kind = .function) (hdp : dp + 60 < recursionLimit) (hun : un + 10 * 60 < cLine) (m0 : (rl, W.listOf #[.ref d1, .ref d2] nn) ∈ led) (m1 : (d1, o1) ∈ led) (m2 : (d2, o2) ∈ led) (hd1 : DOk w o1 k1 100) (lo1 : (d1 == sysModules) = false) (hd2 : DOk w o2 k2 100) (lo2 : (d2 == sysModules) = false)
   (hret : ∀ t h' tk', Fr h₀ L h' m → News h₀ L h' led → Q (.str (dueAll [k1, k2] left) t) { s with heap := h', toks := tk' }) :
   wpAny (model MProg w) (ktrTop dp un gd cn cs L a ccd cl outer) (call (.ref 433) [.ref rl, .bool left]) Q E s :=
  due_use (refs := [.ref d1, .ref d2]) (rows := led) (.cons m1 hd1.1 lo1 hd1.2.1 (.cons m2 hd2.1 lo2 hd2.2.1 .nil)) B F X N T hk hdp hun m0 (fun _ h => h) hret
theorem due1_use {nn : Nat} {rl : Addr} {left : Bool} {d1 : Addr} {o1 : Obj} {k1 : List (PySem.Str × Value)} (B : Below A₀ base outer h₀) (F : Fr h₀ L s.heap m) (X : (Mine.KF w.params).In h₀) (N : News h₀ L s.heap led) (T : Top Mine.vw LS mean mg mb h₀) (hk : cs.kind = .function) (hdp : dp + 60 < recursionLimit) (hun : un + 10 * 60 < cLine) (m0 : (rl, W.listOf #[.ref d1] nn) ∈ led) (m1 : (d1, o1) ∈ led) (hd1 : DOk w o1 k1 100) (lo1 : (d1 == sysModules) = false)
   (hret : ∀ t h' tk', Fr h₀ L h' m → News h₀ L h' led → Q (.str (dueAll [k1] left) t) { s with heap := h', toks := tk' }) :
   wpAny (model MProg w) (ktrTop dp un gd cn cs L a ccd cl outer) (call (.ref 433) [.ref rl, .bool left]) Q E s :=
  due_use (refs := [.ref d1]) (rows := led) (.cons m1 hd1.1 lo1 hd1.2.1 .nil) B F X N T hk hdp hun m0 (fun _ h => h) hret
theorem due0_use {nn : Nat} {rl : Addr} {left : Bool} (B : Below A₀ base outer h₀) (F : Fr h₀ L s.heap m) (X : (Mine.KF w.params).In h₀) (N : News h₀ L s.heap led) (T : Top Mine.vw LS mean mg mb h₀) (hk : cs.kind = .function) (hdp : dp + 60 < recursionLimit) (hun : un + 10 * 60 < cLine) (m0 : (rl, W.listOf #[] nn) ∈ led)
   (hret : ∀ t h' tk', Fr h₀ L h' m → News h₀ L h' led → Q (.str (dueAll [] left) t) { s with heap := h', toks := tk' }) :
   wpAny (model MProg w) (ktrTop dp un gd cn cs L a ccd cl outer) (call (.ref 433) [.ref rl, .bool left]) Q E s :=
  due_use (refs := []) (rows := []) .nil B F X N T hk hdp hun m0 (fun _ h => nomatch h) hret
theorem ne_same {prog : Program} {w : World} {A : Around} {E : Value → Shared → Prop} {s : Shared} {x : PySem.Str} {t u : Tok} {Q : Value → Shared → Prop} (h : Q (.bool false) s) : wpAny (model prog w) A (compareOp .NotEq (.str x t) (.str x u)) Q E s :=
  PyProof.Rows.ne_str (by rw [bne_self_eq_false]; exact h)
theorem eq_same {prog : Program} {w : World} {A : Around} {E : Value → Shared → Prop} {s : Shared} {x : PySem.Str} {t u : Tok} {Q : Value → Shared → Prop} (h : Q (.bool true) s) : wpAny (model prog w) A (compareOp .Eq (.str x t) (.str x u)) Q E s :=
  PyProof.Rows.eq_str (by rw [beq_self_eq_true]; exact h)
theorem eq_law2 {A : Around} {l1 l2 a1 b1 a2 b2 : Addr} {oa1 ob1 oa2 ob2 : Obj} {n1 n2 : Nat} {news led0 : Led} {ka1 kb1 ka2 kb2 : List (PySem.Str × Value)} {Z : List (PySem.Str × Option PySem.Str) × List (PySem.Str × Option PySem.Str)}
   (N : News h₀ L s.heap news) (hu : A.in1.units + 64 < cLine) (p1 : (l1, W.listOf #[.ref a1, .ref b1] n1) ∈ news) (p2 : (l2, W.listOf #[.ref a2, .ref b2] n2) ∈ news)
   (pa1 : (a1, oa1) ∈ news) (pb1 : (b1, ob1) ∈ news) (pa2 : (a2, oa2) ∈ news) (pb2 : (b2, ob2) ∈ news)
   (da1 : DOk w oa1 ka1 100) (db1 : DOk w ob1 kb1 100) (da2 : DOk w oa2 ka2 100) (db2 : DOk w ob2 kb2 100)
   (la1 : (a1 == sysModules) = false) (lb1 : (b1 == sysModules) = false) (la2 : (a2 == sysModules) = false) (lb2 : (b2 == sysModules) = false)
   (he1 : (erP ka1, erP kb1) = Z) (he2 : (erP ka2, erP kb2) = Z) (fr : ∀ p ∈ led0, p.1 ≠ a2 ∧ p.1 ≠ b2) (q1 : (a1, oa1) ∈ led0) (q2 : (b1, ob1) ∈ led0)
   (h : Q (.bool true) s) : wpAny (model MProg w) A (compareOp .Eq (.ref l1) (.ref l2)) Q E s := by
  have he := he1.trans he2.symm
  injection he with e1 e2
  exact eq_pairs N hu p1 p2 pa1 pb1 pa2 pb2 da1.1 db1.1 da2.1 db2.1 la1 lb1 la2 lb2 da1.2.1 db1.2.1 da2.2.1 db2.2.1 (fr _ q1).1 (fr _ q2).2 e1 e2 h
theorem add_u0 {prog : Program} {w : World} {A : Around} {E : Value → Shared → Prop} {s : Shared} {x y : PySem.Str} {t u : Tok} {Q : Value → Shared → Prop} (hx : x ++ y = u0) (h : ∀ t' tk, Q (.str u0 t') { s with toks := tk }) : wpAny (model prog w) A (binaryOp .Add (.str x t) (.str y u)) Q E s := by
  have hl : x.length + y.length ≤ 10000 := by rw [← PySem.Str.length_append, hx]; decide +kernel
  exact add_strB hl fun t' tk => by rw [hx]; exact h t' tk
theorem e403_dd {t1 : Tok} {d1 : Addr} {o1 : Obj} {k1 : List (PySem.Str × Value)} {d2 : Addr} {o2 : Obj} {k2 : List (PySem.Str × Value)} (B : Below A₀ base outer h₀) (F : Fr h₀ L s.heap m) (X : (Mine.KF w.params).In h₀) (N : News h₀ L s.heap led) (T : Top Mine.vw LS mean mg mb h₀) (hk : cs.kind = .function) (hdp : dp + 500 < recursionLimit) (hun : un + 10 * 500 < cLine) (m1 : (d1, o1) ∈ led) (hd1 : DOk w o1 k1 100) (lo1 : (d1 == sysModules) = false) (m2 : (d2, o2) ∈ led) (hd2 : DOk w o2 k2 100) (lo2 : (d2 == sysModules) = false) (hne : d1 ≠ d2)
   (hret : ∀ t h' tk', Fr h₀ L h' m → News h₀ L h' led → Q (.str (dueAll [k1, k2] false) t) { s with heap := h', toks := tk' }) :
   wpAny (model MProg w) (ktrTop dp un gd cn cs L a ccd cl outer) (call (.ref 403) [.str u0 t1, .ref d1, .ref d2]) Q E s := by
  refine Ctr.useR (m403_dd w t1 d1 o1 k1 d2 o2 k2 hd1.1 lo1 hd1.2.2 hd1.2.1 hd2.1 lo2 hd2.2.2 hd2.2.1 hne) B F X N T hk ?_ hdp hun ?_
  · intro p hp
    simp only [List.mem_cons, List.not_mem_nil, or_false] at hp
    rcases hp with rfl | rfl
    · exact m1
    · exact m2
  · rintro r tl h' tk' F' N' ⟨rfl, kvs, t, hov, hg, rfl⟩
    rw [expText_due hg (ov2 hov) false]
    exact hret t h' tk' F' N'
theorem e403_d {t1 : Tok} {d1 : Addr} {o1 : Obj} {k1 : List (PySem.Str × Value)} (B : Below A₀ base outer h₀) (F : Fr h₀ L s.heap m) (X : (Mine.KF w.params).In h₀) (N : News h₀ L s.heap led) (T : Top Mine.vw LS mean mg mb h₀) (hk : cs.kind = .function) (hdp : dp + 500 < recursionLimit) (hun : un + 10 * 500 < cLine) (m1 : (d1, o1) ∈ led) (hd1 : DOk w o1 k1 100) (lo1 : (d1 == sysModules) = false)
   (hret : ∀ t h' tk', Fr h₀ L h' m → News h₀ L h' led → Q (.str (dueAll [k1] false) t) { s with heap := h', toks := tk' }) :
   wpAny (model MProg w) (ktrTop dp un gd cn cs L a ccd cl outer) (call (.ref 403) [.str u0 t1, .ref d1]) Q E s := by
  refine Ctr.useR (m403_d w t1 d1 o1 k1 hd1.1 lo1 hd1.2.2 hd1.2.1) B F X N T hk ?_ hdp hun ?_
  · intro p hp
    simp only [List.mem_cons, List.not_mem_nil, or_false] at hp
    rw [hp]; exact m1
  · rintro r tl h' tk' F' N' ⟨rfl, kvs, t, hov, hg, rfl⟩
    rw [expText_due hg (ov1 hov) false]
    exact hret t h' tk' F' N'
theorem p411_dd {t1 : Tok} {d1 : Addr} {o1 : Obj} {k1 : List (PySem.Str × Value)} {d2 : Addr} {o2 : Obj} {k2 : List (PySem.Str × Value)} (B : Below A₀ base outer h₀) (F : Fr h₀ L s.heap m) (X : (Mine.KF w.params).In h₀) (N : News h₀ L s.heap led) (T : Top Mine.vw LS mean mg mb h₀) (hk : cs.kind = .function) (hdp : dp + 500 < recursionLimit) (hun : un + 10 * 500 < cLine) (m1 : (d1, o1) ∈ led) (hd1 : DOk w o1 k1 100) (lo1 : (d1 == sysModules) = false) (m2 : (d2, o2) ∈ led) (hd2 : DOk w o2 k2 100) (lo2 : (d2 == sysModules) = false) (hne : d1 ≠ d2)
   (hret : ∀ x' d' D' os' tA' tB' tC' tu' h' tk', Fr h₀ L h' m → News h₀ L h' ((x', instObj 391 d') :: (d', tmDict w tA' tB' tC' tu' (dueAll [k1, k2] true) D' os') :: led) → Q (.ref x') { s with heap := h', toks := tk' }) :
   wpAny (model MProg w) (ktrTop dp un gd cn cs L a ccd cl outer) (call (.ref 411) [.str u0 t1, .ref d1, .ref d2]) Q E s := by
  refine Ctr.useR (m411_dd w t1 d1 o1 k1 d2 o2 k2 hd1.1 lo1 hd1.2.2 hd1.2.1 hd2.1 lo2 hd2.2.2 hd2.2.1 hne) B F X N T hk ?_ hdp hun ?_
  · intro p hp
    simp only [List.mem_cons, List.not_mem_nil, or_false] at hp
    rcases hp with rfl | rfl
    · exact m1
    · exact m2
  · rintro r tl h' tk' F' N' ⟨kvs, x', d', D', os', tA', tB', tC', tu', hov, hg, rfl, rfl⟩
    rw [expText_due hg (ov2 hov) true] at N'
    exact hret x' d' D' os' tA' tB' tC' tu' h' tk' F' N'
theorem w380_nd {x d D os : Addr} {tA tB tC tu : Tok} {tl : Led} {d2 : Addr} {o2 : Obj} {k2 : List (PySem.Str × Value)} (B : Below A₀ base outer h₀) (F : Fr h₀ L s.heap m) (X : (Mine.KF w.params).In h₀) (N : News h₀ L s.heap led) (T : Top Mine.vw LS mean mg mb h₀) (hk : cs.kind = .function) (hdp : dp + 400 < recursionLimit) (hun : un + 10 * 400 < cLine) (m3 : (x, instObj 391 d) ∈ led) (m4 : (d, tmDict w tA tB tC tu u0 D os) ∈ led) (hW : WholeTl w D tl) (ms : ∀ p ∈ tl, p ∈ led) (m2 : (d2, o2) ∈ led) (hd2 : DOk w o2 k2 100) (lo2 : (d2 == sysModules) = false)
   (hret : ∀ t h' tk', Fr h₀ L h' m → News h₀ L h' led → Q (.str (dueAll [k2] false) t) { s with heap := h', toks := tk' }) :
   wpAny (model MProg w) (ktrTop dp un gd cn cs L a ccd cl outer) (call (.ref 380) [.ref x, .none, .ref d2]) Q E s := by
  obtain ⟨y0, ys, vobs, rfl, hO⟩ := hW
  refine m380_nd_use B F X N T hk hdp hun m2 m3 m4 (ms _ (.head _)) hO (fun p hp => ms p (.tail _ hp)) hd2.1 lo2 hd2.2.2 hd2.2.1 ?_
  intro kvs t h' tk' F' N' hov hg
  rw [expText_due hg (ov1b hov) false]
  exact hret t h' tk' F' N'
theorem w380_0 {x d D os : Addr} {tA tB tC tu : Tok} {tl : Led} (B : Below A₀ base outer h₀) (F : Fr h₀ L s.heap m) (X : (Mine.KF w.params).In h₀) (N : News h₀ L s.heap led) (T : Top Mine.vw LS mean mg mb h₀) (hk : cs.kind = .function) (hdp : dp + 400 < recursionLimit) (hun : un + 10 * 400 < cLine) (m3 : (x, instObj 391 d) ∈ led) (m4 : (d, tmDict w tA tB tC tu u0 D os) ∈ led) (hW : WholeTl w D tl) (ms : ∀ p ∈ tl, p ∈ led)
   (hret : ∀ t h' tk', Fr h₀ L h' m → News h₀ L h' led → Q (.str (dueAll [] false) t) { s with heap := h', toks := tk' }) :
   wpAny (model MProg w) (ktrTop dp un gd cn cs L a ccd cl outer) (call (.ref 380) [.ref x]) Q E s := by
  obtain ⟨y0, ys, vobs, rfl, hO⟩ := hW
  refine m380_0_use B F X N T hk hdp hun m3 m4 (ms _ (.head _)) hO (fun p hp => ms p (.tail _ hp)) ?_
  intro kvs t h' tk' F' N' hov hg
  rw [expText_due hg (ov0 hov) false]
  exact hret t h' tk' F' N'
theorem w388_dd {x d D os : Addr} {tA tB tC tu : Tok} {tl : Led} {d1 : Addr} {o1 : Obj} {k1 : List (PySem.Str × Value)} {d2 : Addr} {o2 : Obj} {k2 : List (PySem.Str × Value)} (B : Below A₀ base outer h₀) (F : Fr h₀ L s.heap m) (X : (Mine.KF w.params).In h₀) (N : News h₀ L s.heap led) (T : Top Mine.vw LS mean mg mb h₀) (hk : cs.kind = .function) (hdp : dp + 450 < recursionLimit) (hun : un + 10 * 450 < cLine) (m3 : (x, instObj 391 d) ∈ led) (m4 : (d, tmDict w tA tB tC tu u0 D os) ∈ led) (hW : WholeTl w D tl) (ms : ∀ p ∈ tl, p ∈ led) (m1 : (d1, o1) ∈ led) (hd1 : DOk w o1 k1 100) (lo1 : (d1 == sysModules) = false) (m2 : (d2, o2) ∈ led) (hd2 : DOk w o2 k2 100) (lo2 : (d2 == sysModules) = false) (hne : d1 ≠ d2)
   (hret : ∀ x' d' D' os' tA' tB' tC' tu' h' tk', Fr h₀ L h' m → News h₀ L h' ((x', instObj 391 d') :: (d', tmDict w tA' tB' tC' tu' (dueAll [k1, k2] true) D' os') :: led) → Q (.ref x') { s with heap := h', toks := tk' }) :
   wpAny (model MProg w) (ktrTop dp un gd cn cs L a ccd cl outer) (call (.ref 388) [.ref x, .ref d1, .ref d2]) Q E s := by
  obtain ⟨y0, ys, vobs, rfl, hO⟩ := hW
  refine m388_dd_use B F X N T hk hdp hun m1 m2 m3 m4 (ms _ (.head _)) hO (fun p hp => ms p (.tail _ hp)) hd1.1 lo1 hd1.2.2 hd1.2.1 hd2.1 lo2 hd2.2.2 hd2.2.1 hne ?_
  intro x' d' D' os' tA' tB' tC' tu' kvs h' tk' F' N' hov hg
  rw [expText_due hg (ov2 hov) true] at N'
  exact hret x' d' D' os' tA' tB' tC' tu' h' tk' F' N'
theorem w388_d {x d D os : Addr} {tA tB tC tu : Tok} {tl : Led} {d1 : Addr} {o1 : Obj} {k1 : List (PySem.Str × Value)} (B : Below A₀ base outer h₀) (F : Fr h₀ L s.heap m) (X : (Mine.KF w.params).In h₀) (N : News h₀ L s.heap led) (T : Top Mine.vw LS mean mg mb h₀) (hk : cs.kind = .function) (hdp : dp + 450 < recursionLimit) (hun : un + 10 * 450 < cLine) (m3 : (x, instObj 391 d) ∈ led) (m4 : (d, tmDict w tA tB tC tu u0 D os) ∈ led) (hW : WholeTl w D tl) (ms : ∀ p ∈ tl, p ∈ led) (m1 : (d1, o1) ∈ led) (hd1 : DOk w o1 k1 100) (lo1 : (d1 == sysModules) = false)
   (hret : ∀ x' d' D' os' tA' tB' tC' tu' h' tk', Fr h₀ L h' m → News h₀ L h' ((x', instObj 391 d') :: (d', tmDict w tA' tB' tC' tu' (dueAll [k1] true) D' os') :: led) → Q (.ref x') { s with heap := h', toks := tk' }) :
   wpAny (model MProg w) (ktrTop dp un gd cn cs L a ccd cl outer) (call (.ref 388) [.ref x, .ref d1]) Q E s := by
  obtain ⟨y0, ys, vobs, rfl, hO⟩ := hW
  refine m388_d_use B F X N T hk hdp hun m1 m3 m4 (ms _ (.head _)) hO (fun p hp => ms p (.tail _ hp)) hd1.1 lo1 hd1.2.2 hd1.2.1 ?_
  intro x' d' D' os' tA' tB' tC' tu' kvs h' tk' F' N' hov hg
  rw [expText_due hg (ov1 hov) true] at N'
  exact hret x' d' D' os' tA' tB' tC' tu' h' tk' F' N'
end
end

section
open PySem PySem.W PyProof.Rows PySem.Spec PySem.Calls PyProof.V
section
theorem lit_item {prog : Program} {w : World} {A : Around} {E : Value → Shared → Prop} {s : Shared} {h₀ : Heap} {L l : Addr} {t1 t2 t3 t4 u : Tok} {led : Led} {value slice : PySem.Expr} {Q : Value → Shared → Prop} {i : Int} {x : PySem.Str} (h0 : 0 ≤ i) (h1 : i < 4)
    (hx : [PySem.Str.ofString "", PySem.Str.ofString "/b-", PySem.Str.ofString "?c=", PySem.Str.ofString "&"].getD i.toNat PySem.Str.empty = x)
    (N : News h₀ L s.heap ((l, litObj t1 t2 t3 t4) :: led)) (h : ∀ t', News h₀ L s.heap led → Q (.str x t') s)
    (hs : subscripted slice false (.ref l) (.int i u) = operate [.ref l, .int i u] (getItem (.ref l) (.int i u))) :
    wpAny (model prog w) A (subscriptTail value slice (.ref l) (.int i u)) Q E s :=
  KTb.item_list (ws := [PySem.Str.ofString "", PySem.Str.ofString "/b-", PySem.Str.ofString "?c=", PySem.Str.ofString "&"]) (News.isList N (.head _)) (by repeat constructor) h0 h1 (by omega) (fun t' _ => by rw [hx]; exact h t' fun p hp => N p (.tail _ hp)) hs
theorem rows29 : True := by
  k_with_none
  k_with "compareOp In str str" => (k_here; first | refine in_strD (b := true) (by decide +kernel) ?_ | refine in_strD (b := false) (by decide +kernel) ?_)
  k_with "exec Assign cons ListComp" => (k_here; (with_reducible show wpAny _ _ (exec (Stmt.Assign [Expr.Attribute _ _ _] _ _) _) _ _ _); with_reducible refine plainObj_wpAny_Assign_Attribute ?_ ?_; rotate_left; with_unfolding_all rfl)
  k_with "exec For Tuple Attribute cons nil" => (k_here; (rename Fr _ _ _ _ => lF'); (with_unfolding_all refine' For_turns lF' ?_; k_whole))
  k_with "call builtin:dict.get" => (k_here; k_dflt (refine kdg_get2 (knd := PySem.strKind _ _) (by k_asm) (by k_mem) (by k_asm) (by assumption) (strKind_is _ _ _ _) _ (by assumption) ?_); (try dsimp only [Option.getD]))
  k_with "truthy str" => (k_here; refine truthy_strT (by omega) ?_)
  k_with "subscriptTail" => (k_here; k_dflt ((with_reducible show wpAny _ _ (subscriptTail _ _ (Value.ref _) (Value.str _ _)) _ _ _); refine kdt_tail (knd := PySem.strKind _ _) (by k_asm) (by k_mem) (by k_asm) ?_))
  k_with "getItem ref str" => (k_here; k_dflt (refine kdt_getItem (knd := PySem.strKind _ _) (by k_asm) (by k_mem) (by k_asm) (strKind_is _ _ _ _) (by first | assumption | rfl) ?_))
  k_with "mem" => (repeat (first | exact List.Mem.head _ | assumption | refine List.Mem.tail _ ?_))
  k_with "sub" => ((try dsimp only [List.cons_append, List.nil_append]); (repeat (refine List.forall_mem_cons.mpr ⟨by walk_at "mem", ?_⟩)); first | (intro p hp; walk_at "mem"; done) | exact fun _ h => (List.not_mem_nil h).elim)
  k_with "call ref" => (k_here; (with_reducible show wpAny _ _ (call (Value.ref 403) [Value.str _ _, Value.ref _, Value.ref _]) _ _ _); k_dflt (refine e403_dd (by k_asm) (by k_asm) (by k_asm) (by k_asm) (by k_asm) (by first | exact rfl | assumption) (by ktr_room) (by ktr_units) (by k_mem) (by assumption) (by assumption) (by k_mem) (by assumption) (by assumption) (by assumption) ?_); intro t'q h'q tk'q F'q N'q; (try k_sweep))
  k_with "call ref" => (k_here; (with_reducible show wpAny _ _ (call (Value.ref 403) [Value.str _ _, Value.ref _]) _ _ _); k_dflt (refine e403_d (by k_asm) (by k_asm) (by k_asm) (by k_asm) (by k_asm) (by first | exact rfl | assumption) (by ktr_room) (by ktr_units) (by k_mem) (by assumption) (by assumption) ?_); intro t'q h'q tk'q F'q N'q; (try k_sweep))
  k_with "call ref" => (k_here; (with_reducible show wpAny _ _ (call (Value.ref 411) [Value.str _ _, Value.ref _, Value.ref _]) _ _ _); k_dflt (refine p411_dd (by k_asm) (by k_asm) (by k_asm) (by k_asm) (by k_asm) (by first | exact rfl | assumption) (by ktr_room) (by ktr_units) (by k_mem) (by assumption) (by assumption) (by k_mem) (by assumption) (by assumption) (by assumption) ?_); intro x'q d'q D'q os'q tA'q tB'q tC'q tu'q h'q tk'q F'q N'q; (try k_sweep))
  k_with "call ref" => (k_here; (with_reducible show wpAny _ _ (call (Value.ref 380) [Value.ref _, Value.none, Value.ref _]) _ _ _); k_dflt (refine w380_nd (by k_asm) (by k_asm) (by k_asm) (by k_asm) (by k_asm) (by first | exact rfl | assumption) (by ktr_room) (by ktr_units) (by k_mem) (by k_mem) (by assumption) (by (intro p hp; simp only [List.mem_cons]; simp only [hp, or_true])) (by k_mem) (by assumption) (by assumption) ?_); intro t'q h'q tk'q F'q N'q; (try k_sweep))
  k_with "call ref" => (k_here; (with_reducible show wpAny _ _ (call (Value.ref 380) [Value.ref _]) _ _ _); k_dflt (refine w380_0 (by k_asm) (by k_asm) (by k_asm) (by k_asm) (by k_asm) (by first | exact rfl | assumption) (by ktr_room) (by ktr_units) (by k_mem) (by k_mem) (by assumption) (by (intro p hp; simp only [List.mem_cons]; simp only [hp, or_true])) ?_); intro t'q h'q tk'q F'q N'q; (try k_sweep))
  k_with "call ref" => (k_here; (with_reducible show wpAny _ _ (call (Value.ref 388) [Value.ref _, Value.ref _, Value.ref _]) _ _ _); k_dflt (refine w388_dd (by k_asm) (by k_asm) (by k_asm) (by k_asm) (by k_asm) (by first | exact rfl | assumption) (by ktr_room) (by ktr_units) (by k_mem) (by k_mem) (by assumption) (by (intro p hp; simp only [List.mem_cons]; simp only [hp, or_true])) (by k_mem) (by assumption) (by assumption) (by k_mem) (by assumption) (by assumption) (by assumption) ?_); intro x'q d'q D'q os'q tA'q tB'q tC'q tu'q h'q tk'q F'q N'q; (try k_sweep))
  k_with "call ref" => (k_here; (with_reducible show wpAny _ _ (call (Value.ref 388) [Value.ref _, Value.ref _]) _ _ _); k_dflt (refine w388_d (by k_asm) (by k_asm) (by k_asm) (by k_asm) (by k_asm) (by first | exact rfl | assumption) (by ktr_room) (by ktr_units) (by k_mem) (by k_mem) (by assumption) (by (intro p hp; simp only [List.mem_cons]; simp only [hp, or_true])) (by k_mem) (by assumption) (by assumption) ?_); intro x'q d'q D'q os'q tA'q tB'q tC'q tu'q h'q tk'q F'q N'q; (try k_sweep))
  k_with "call ref" => (k_here; (with_reducible show wpAny _ _ (call (Value.ref 433) _) _ _ _); k_dflt (refine due0_use (by k_asm) (by k_asm) (by k_asm) (by k_asm) (by k_asm) (by first | exact rfl | assumption) (by ktr_room) (by ktr_units) (by k_mem) ?_); intro t'q h'q tk'q F'q N'q; (try k_sweep))
  k_with "call ref" => (k_here; (with_reducible show wpAny _ _ (call (Value.ref 433) _) _ _ _); k_dflt (refine due1_use (by k_asm) (by k_asm) (by k_asm) (by k_asm) (by k_asm) (by first | exact rfl | assumption) (by ktr_room) (by ktr_units) (by k_mem) (by k_mem) (by assumption) (by assumption) ?_); intro t'q h'q tk'q F'q N'q; (try k_sweep))
  k_with "call ref" => (k_here; (with_reducible show wpAny _ _ (call (Value.ref 433) _) _ _ _); k_dflt (refine due2_use (by k_asm) (by k_asm) (by k_asm) (by k_asm) (by k_asm) (by first | exact rfl | assumption) (by ktr_room) (by ktr_units) (by k_mem) (by k_mem) (by k_mem) (by assumption) (by assumption) (by assumption) (by assumption) ?_); intro t'q h'q tk'q F'q N'q; (try k_sweep))
  k_with "call ref" => (k_here; (with_reducible show wpAny _ _ (call (Value.ref 391) _) _ _ _); k_dflt (refine whole_use (by k_asm) (by k_asm) (by k_asm) (by k_asm) (by k_asm) (by first | exact rfl | assumption) (by ktr_room) (by ktr_units) ?_); intro x'q d'q D'q os'q tA'q tB'q tC'q tu'q tl'q h'q tk'q F'q N'q hW'q; (try simp only [List.cons_append, List.nil_append] at N'q))
  k_with "call ref" => (k_here; (with_reducible show wpAny _ _ (call (Value.ref 426) _) _ _ _); k_dflt (refine law_dicts (by assumption) (by assumption) (by first | assumption | omega) (by k_asm) (by k_asm) (by k_asm) (by k_asm) (by k_asm) (by first | exact rfl | assumption) (by ktr_room) (by ktr_units) ?_); intro l'q d1'q d2'q o1'q o2'q k1'q k2'q h'q tk'q F'q N'q ne'q la'q lb'q fr'q da'q db'q he'q)
  k_with "compareOp Eq ref ref" => (k_here; (with_reducible show wpAny _ _ (compareOp CmpOp.Eq (Value.ref _) (Value.ref _)) _ _ _); k_dflt (refine eq_law2 (by k_asm) (by ke_room) (by k_mem) (by k_mem) (by k_mem) (by k_mem) (by k_mem) (by k_mem) (by with_reducible assumption) (by with_reducible assumption) (by with_reducible assumption) (by with_reducible assumption) (by with_reducible assumption) (by with_reducible assumption) (by with_reducible assumption) (by with_reducible assumption) (by with_reducible assumption) (by with_reducible assumption) (by with_reducible assumption) (by k_mem) (by k_mem) ?_))
  trivial
local macro_rules | `(tactic| k_all) => `(tactic| with_reducible assumption)
theorem rows30 : True := by
  k_with "call ref" => (k_here; (with_reducible show wpAny _ _ (call (Value.ref 419) _) _ _ _); k_dflt (refine lits_use (by k_asm) (by k_asm) (by k_asm) (by k_asm) (by k_asm) (by first | exact rfl | assumption) (by ktr_room) (by ktr_units)  ?_); intro l'q t1'q t2'q t3'q t4'q h'q tk'q F'q N'q; (try k_sweep))
  k_with "compareOp NotEq str str" => (k_here; k_dflt (refine ne_same ?_))
  k_with "compareOp Eq str str" => (k_here; k_dflt (refine eq_same ?_))
  k_with "binaryOp Add str str" => (k_here; first | (k_dflt (refine add_u0 (by decide +kernel) ?_); intro _ _) | (k_dflt (refine add_strB (by decide +kernel) ?_); intro _ _))
  k_with "callWith ref" => (k_here; (with_reducible show wpAny _ _ (callWith _ _ _ (backTo _ (starEach [] _)) []) _ _ _); k_dflt (refine callWith_K0 (by exact Frag.In.keeps (by with_reducible assumption) (Fr.keep (by with_reducible assumption))) (by k_is) ?_; k_whole); (try dsimp only [List.nil_append, List.cons_append, List.append_nil]))
  k_with "subscriptTail" => (k_here; (with_reducible show wpAny _ _ (subscriptTail (PySem.Expr.Name _ _) _ (Value.ref _) (Value.int _ _)) _ _ _); k_dflt (refine topList_K (by k_asm) (by k_asm) (by k_is) (by decide) (by decide) (by rfl) ?_; k_whole))
  k_with "subscriptTail" => (k_here; (with_reducible show wpAny _ _ (subscriptTail (PySem.Expr.Call _ _ _ _) _ (Value.ref _) (Value.int 0 _)) _ _ _); (rename News _ _ _ _ => lN'q); k_dflt (refine lit_item (i := 0) (x := PySem.Str.ofString "") (by decide) (by decide) rfl lN'q ?_ (by with_unfolding_all rfl)); clear lN'q; intro _ N'q)
  k_with "subscriptTail" => (k_here; (with_reducible show wpAny _ _ (subscriptTail (PySem.Expr.Call _ _ _ _) _ (Value.ref _) (Value.int 1 _)) _ _ _); (rename News _ _ _ _ => lN'q); k_dflt (refine lit_item (i := 1) (x := PySem.Str.ofString "/b-") (by decide) (by decide) rfl lN'q ?_ (by with_unfolding_all rfl)); clear lN'q; intro _ N'q)
  k_with "subscriptTail" => (k_here; (with_reducible show wpAny _ _ (subscriptTail (PySem.Expr.Call _ _ _ _) _ (Value.ref _) (Value.int 2 _)) _ _ _); (rename News _ _ _ _ => lN'q); k_dflt (refine lit_item (i := 2) (x := PySem.Str.ofString "?c=") (by decide) (by decide) rfl lN'q ?_ (by with_unfolding_all rfl)); clear lN'q; intro _ N'q)
  k_with "subscriptTail" => (k_here; (with_reducible show wpAny _ _ (subscriptTail (PySem.Expr.Call _ _ _ _) _ (Value.ref _) (Value.int 3 _)) _ _ _); (rename News _ _ _ _ => lN'q); k_dflt (refine lit_item (i := 3) (x := PySem.Str.ofString "&") (by decide) (by decide) rfl lN'q ?_ (by with_unfolding_all rfl)); clear lN'q; intro _ N'q)
  trivial
/-- the law's promise: what it hands back is True -/
theorem post_ok (args : List WData) : PySem.Challenge.rw_jv0049_01.row.claim.post args (.bool true) args = true := by
  refine postW_of (X := true) ?_ ?_ rfl
  · decide
  · show WTm.value _ _ _ = _
    unfold OpenLaw.row
    simp [WTm.value, PySem.W.same]
local macro_rules | `(tactic| wrow_close) => `(tactic| (w_end; (show GoodW _ _ _ _ _ (.ok (.ret (.bool _))) _); refine' goodW_bool ?a ?b (raisesW_false ?c) ?d; (case a => assumption); (case b => assumption); (case c => wrow_none_raised); (case d => exact post_ok _); walk_say "CLOSE bool"))
def fin.tw2415902012162501839 : Unit := ()
def fin.tw8569027658895312972 : Unit := ()
def fin.tw7911910378639958867 : Unit := ()
def fin.tw3211687289105081006 : Unit := ()
def fin.tw11587955951900863698 : Unit := ()
def fin.tw17717364068325071970 : Unit := ()
def fin.tw1951045429614898598 : Unit := ()
def fin.tw7930893340574950883 : Unit := ()
def fin.tw4312942655851389009 : Unit := ()
def fin.tw15688172546075569117 : Unit := ()
def fin.tw4209717502836232480 : Unit := ()
def fin.tw4723787954990577340 : Unit := ()
def fin.tw876206183137641144 : Unit := ()
def fin.tw11454252539852477091 : Unit := ()
def fin.tw13337293482115323266 : Unit := ()
def fin.tw7439575562449295702 : Unit := ()
def fin.tw7976502392129159676 : Unit := ()
def fin.tw7468727024169554154 : Unit := ()
def fin.tw3955986520655104412 : Unit := ()
def fin.tw428092273266315144 : Unit := ()
def fin.tw5805905742469029177 : Unit := ()
def fin.tw16906536467411238026 : Unit := ()
def fin.tw1625080806587739848 : Unit := ()
def fin.tw16510490156224867327 : Unit := ()
def fin.tw3199103547748192838 : Unit := ()
def fin.tw544173102793226557 : Unit := ()
def fin.tw6058378993454661626 : Unit := ()
def fin.tw17416127249078093707 : Unit := ()
def fin.tw2067723777617599883 : Unit := ()
def fin.tw1544503264643628384 : Unit := ()
def fin.tw15566928917628492161 : Unit := ()
def fin.tw15523922138108190246 : Unit := ()
def fin.tw9001875181463519149 : Unit := ()
def fin.tw7830629276484211593 : Unit := ()
def fin.tw17430205856086898164 : Unit := ()
def fin.tw4588413851689716618 : Unit := ()
def fin.tw10852849658779182186 : Unit := ()
def fin.tw18295790063311454060 : Unit := ()
def fin.tw4180101509539245183 : Unit := ()
def fin.tw2408960939061249870 : Unit := ()
def fin.tw15309079848183770524 : Unit := ()
def fin.tw3112429581023547943 : Unit := ()
def fin.tw2462912638960843985 : Unit := ()
def fin.tw828056024939588000 : Unit := ()
def fin.tw17123178472405020103 : Unit := ()
def fin.tw16237762584071213788 : Unit := ()
def fin.tw6766378078585498003 : Unit := ()
def fin.tw4769821431679368130 : Unit := ()
def fin.tw7995362448368537469 : Unit := ()
def fin.tw5250828734511838712 : Unit := ()
def fin.tw7380833856163905736 : Unit := ()
def fin.tw3506512066687448480 : Unit := ()
def fin.tw1405897622057794425 : Unit := ()
def fin.tw8776770756819070316 : Unit := ()
def fin.tw3599858809825778643 : Unit := ()
def fin.tw8959776046257974339 : Unit := ()
def fin.tw12347537446847802165 : Unit := ()
def fin.tw3105451386036433885 : Unit := ()
def fin.tw10891054232620793217 : Unit := ()
def fin.tw6718411051458867188 : Unit := ()
def fin.tw13360279666012451719 : Unit := ()
def fin.tw10907391636593693970 : Unit := ()
def fin.tw14075178694198228753 : Unit := ()
def fin.tw1560641971993327685 : Unit := ()
def fin.tw10936777179133785780 : Unit := ()
def fin.tw9725021084223525626 : Unit := ()
def fin.tw14333544728242365436 : Unit := ()
def fin.tw14347400895652799225 : Unit := ()
def fin.tw15234240111613058569 : Unit := ()
def fin.tw9997704412844104603 : Unit := ()
def fin.tw1080700006314346644 : Unit := ()
def fin.tw734423898118469491 : Unit := ()
def fin.tw4171678462856256454 : Unit := ()
def fin.tw9221430085559818832 : Unit := ()
def fin.tw1921391257341544841 : Unit := ()
def fin.tw3028926083550364057 : Unit := ()
def fin.tw4100293265295638779 : Unit := ()
def fin.tw14578271805448956485 : Unit := ()
def fin.tw11192643925408225281 : Unit := ()
def fin.tw2910385600587045654 : Unit := ()
def fin.tw10234915967203826555 : Unit := ()
def fin.tw6449190631224713292 : Unit := ()
def fin.tw14279960228734115912 : Unit := ()
def fin.tw15564276425815640635 : Unit := ()
def fin.tw9218923581257491847 : Unit := ()
def fin.tw982560976839675504 : Unit := ()
def fin.tw9363291351745731410 : Unit := ()
def fin.tw17186005699333237546 : Unit := ()
def fin.tw14679806638718605512 : Unit := ()
def fin.tw3998398428148030388 : Unit := ()
def fin.tw10782327089294195420 : Unit := ()
def fin.tw4326780796455107134 : Unit := ()
def fin.tw13898374239775968522 : Unit := ()
def fin.tw12847644182280273618 : Unit := ()
def fin.tw12946824338688289833 : Unit := ()
def fin.tw10818889477481085253 : Unit := ()
def fin.tw12711679700452659978 : Unit := ()
def fin.tw8416529770105884409 : Unit := ()
def fin.tw3810570522144960214 : Unit := ()
def fin.tw6144012678527597917 : Unit := ()
def fin.tw1422313219903470601 : Unit := ()
def fin.tw9746214513668125432 : Unit := ()
def fin.tw8643116662766533202 : Unit := ()
def fin.tw15201286185872193147 : Unit := ()
def fin.tw10279692637995926009 : Unit := ()
def fin.tw6577878126316647860 : Unit := ()
def fin.tw2789213428527533208 : Unit := ()
def fin.tw612862322836996645 : Unit := ()
def fin.tw4218790737952374519 : Unit := ()
def fin.tw7613945582906998725 : Unit := ()
def fin.tw4924110625330727750 : Unit := ()
def fin.tw14134379338385194387 : Unit := ()
def fin.tw18105942590061964161 : Unit := ()
def fin.tw7613857476909055813 : Unit := ()
def fin.tw12135189313929291683 : Unit := ()
def fin.tw17570709534508481193 : Unit := ()
def fin.tw11112386831996348380 : Unit := ()
def fin.tw7890596953891613788 : Unit := ()
def fin.tw8119881530291889089 : Unit := ()
def fin.tw3222278782482380304 : Unit := ()
def fin.tw12669758225909598566 : Unit := ()
def fin.tw12876064707754696378 : Unit := ()
def fin.tw4162185377826839926 : Unit := ()
def fin.tw2656788454239962097 : Unit := ()
def fin.tw1035503724928835527 : Unit := ()
def fin.tw1598341052017786649 : Unit := ()
def fin.tw6766580051018981234 : Unit := ()
def fin.tw15533503492667675913 : Unit := ()
def fin.tw11392279219771409646 : Unit := ()
def fin.tw9917203430921899224 : Unit := ()
def fin.tw8272817396058243321 : Unit := ()
def fin.tw14855157385224911753 : Unit := ()
def fin.tw9746901515087519452 : Unit := ()
def fin.tw13093503161671486093 : Unit := ()
def fin.tw2304379251839397102 : Unit := ()
def fin.tw3837020019201816242 : Unit := ()
def fin.tw5486226609284752418 : Unit := ()
def fin.tw17662344363894024548 : Unit := ()
def fin.tw17165492100625655197 : Unit := ()
def fin.tw2305881189932309285 : Unit := ()
def fin.tw6435670951450185984 : Unit := ()
def fin.tw5073790198343104882 : Unit := ()
def fin.tw2051409578822353534 : Unit := ()
def fin.tw3794220679723124481 : Unit := ()
def fin.tw12284014389350100970 : Unit := ()
def fin.tw5115476493328737885 : Unit := ()
def fin.tw11293339424137598113 : Unit := ()
def fin.tw3404873503106905745 : Unit := ()
def fin.tw3788772014149755174 : Unit := ()
def fin.tw12557769604369416430 : Unit := ()
def fin.tw15399907426655090358 : Unit := ()
def fin.tw6707113841082798463 : Unit := ()
def fin.tw17861066769153400444 : Unit := ()
def fin.tw8025084765662995669 : Unit := ()
def fin.tw111200028466390044 : Unit := ()
def fin.tw15459455144867644326 : Unit := ()
def fin.tw16488607150827929282 : Unit := ()
def fin.tw17656766251404061198 : Unit := ()
def fin.tw9247658263007524724 : Unit := ()
def fin.tw7661832156752021035 : Unit := ()
def fin.tw8330952907988395303 : Unit := ()
def fin.tw16103849850496634939 : Unit := ()
def fin.tw16256441300576474876 : Unit := ()
def fin.tw10511823565363050587 : Unit := ()
def fin.tw12105171945263650130 : Unit := ()
def fin.tw10829458402184033698 : Unit := ()
def fin.tw6323506392446703087 : Unit := ()
def fin.tw1249118550022496774 : Unit := ()
def fin.tw14166196953294261902 : Unit := ()
def fin.tw12740692763255036000 : Unit := ()
def fin.tw12550770813317053977 : Unit := ()
def fin.tw617011020343161139 : Unit := ()
def fin.tw7000300075881102575 : Unit := ()
def fin.tw11061592194353771069 : Unit := ()
def fin.tw8919302590299486024 : Unit := ()
def fin.tw16115155874713506467 : Unit := ()
def fin.tw17570509445847580414 : Unit := ()
def fin.tw6531376189190222733 : Unit := ()
def fin.tw12180539936304867106 : Unit := ()
def fin.tw11897717083992391400 : Unit := ()
def fin.tw9722632081671974098 : Unit := ()
def fin.tw13700621096757390547 : Unit := ()
def fin.tw11039862389202566683 : Unit := ()
def fin.tw12141802397888321627 : Unit := ()
def fin.tw3314143786362844604 : Unit := ()
def fin.tw15741700470354863883 : Unit := ()
def fin.tw17821466097196317003 : Unit := ()
def fin.tw846297522682114974 : Unit := ()
def fin.tw2565351972500760935 : Unit := ()
def fin.tw10599938827571368224 : Unit := ()
def fin.tw8408514402456403777 : Unit := ()
def fin.tw15803647335775096318 : Unit := ()
def fin.tw17628183408451194143 : Unit := ()
def fin.tw8352470293576582857 : Unit := ()
def fin.tw3683778510129048087 : Unit := ()
def fin.tw562544131471498259 : Unit := ()
def fin.tw14568449535678555946 : Unit := ()
def fin.tw10147658903529517814 : Unit := ()
def fin.tw7070210977369740762 : Unit := ()
def fin.tw7282745182861764756 : Unit := ()
def fin.tw13177410634674063896 : Unit := ()
def fin.tw10391319463526535247 : Unit := ()
def fin.tw5320702786494000081 : Unit := ()
def fin.tw10807920368746810246 : Unit := ()
def fin.tw6207176494656529804 : Unit := ()
def fin.tw1635022588487117616 : Unit := ()
def fin.tw9839346839192117915 : Unit := ()
def fin.tw7822013112032934038 : Unit := ()
def fin.tw12567809125941998234 : Unit := ()
def fin.tw6381419901266130222 : Unit := ()
def fin.tw6081921254191324426 : Unit := ()
def fin.tw3343445320678177929 : Unit := ()
def fin.tw18082680734076937219 : Unit := ()
def fin.tw17933470926392208243 : Unit := ()
def fin.tw744865244796547220 : Unit := ()
def fin.tw16889484823980962733 : Unit := ()
def fin.tw12629903358213643309 : Unit := ()
def fin.tw1012361349325877821 : Unit := ()
def fin.tw7055459427971326715 : Unit := ()
def fin.tw4265850918314828415 : Unit := ()
def fin.tw500868675978126160 : Unit := ()
def fin.tw12291753297600562012 : Unit := ()
def fin.tw4640724917100965312 : Unit := ()
def fin.tw16958243865122950064 : Unit := ()
def fin.tw18195182924450695511 : Unit := ()
def fin.tw14139026862911339306 : Unit := ()
def fin.tw6454446336052903152 : Unit := ()
def fin.tw4013537778516871869 : Unit := ()
def fin.tw13815853411582834384 : Unit := ()
def fin.tw5266742908149448401 : Unit := ()
def fin.tw13295704053362595847 : Unit := ()
def fin.tw12355744275394475900 : Unit := ()
def fin.tw799341379326975648 : Unit := ()
def fin.tw17204297501091165112 : Unit := ()
def fin.tw14728723275428758510 : Unit := ()
def fin.tw15344004072050561172 : Unit := ()
def fin.tw10098057777631523497 : Unit := ()
def fin.tw15225332579556243176 : Unit := ()
def fin.tw888132650186811988 : Unit := ()
def fin.tw2617349483901765261 : Unit := ()
def fin.tw13516622038369049944 : Unit := ()
def fin.tw2236755162388048479 : Unit := ()
def fin.tw15094949803261831281 : Unit := ()
def fin.tw12149302876761508202 : Unit := ()
def fin.tw8289400949097046189 : Unit := ()
def fin.tw12237877928780879103 : Unit := ()
def fin.tw2976117146107443816 : Unit := ()
def fin.tw2086631506510373192 : Unit := ()
def fin.tw10751089155417173751 : Unit := ()
def fin.tw17719728818120068181 : Unit := ()
def fin.tw807531904560671035 : Unit := ()
def fin.tw11936995450923721628 : Unit := ()
def fin.tw14109310954907245088 : Unit := ()
def fin.tw12464766053444552404 : Unit := ()
def fin.tw4424551920762525699 : Unit := ()
def fin.tw12649782002744950493 : Unit := ()
def fin.tw17449020081951674710 : Unit := ()
def fin.tw7451905468542833597 : Unit := ()
def fin.tw15205425988870721313 : Unit := ()
def fin.tw14856888987745899463 : Unit := ()
def fin.tw17974384156558142227 : Unit := ()
def fin.tw5196160543931855155 : Unit := ()
def fin.tw2608567993692976607 : Unit := ()
def fin.tw2321816554428607280 : Unit := ()
def fin.tw4684940682943077961 : Unit := ()
def fin.tw1306319669024162852 : Unit := ()
def fin.tw4950403968356008110 : Unit := ()
def fin.tw891787732878383699 : Unit := ()
def fin.tw17637551073024348614 : Unit := ()
def fin.tw4170516301191304579 : Unit := ()
def fin.tw17108682257543074861 : Unit := ()
def fin.tw6232080684201472732 : Unit := ()
def fin.tw14838103818555229697 : Unit := ()
def fin.tw9357874355931990178 : Unit := ()
def fin.tw16307707646766795581 : Unit := ()
def fin.tw5796354222422608987 : Unit := ()
def fin.tw9735714214384596553 : Unit := ()
def fin.tw4879674094562380441 : Unit := ()
def fin.tw999798209818781672 : Unit := ()
def fin.tw6127190174262240918 : Unit := ()
def fin.tw6385529401280152062 : Unit := ()
def fin.tw3975253019698251321 : Unit := ()
def fin.tw2316539691658765527 : Unit := ()
def fin.tw2367325634123391141 : Unit := ()
def fin.tw7321584467024264148 : Unit := ()
def fin.tw13383306551100868464 : Unit := ()
def fin.tw5734618986648460908 : Unit := ()
def fin.tw2671655128345628175 : Unit := ()
def fin.tw7773504467932542270 : Unit := ()
def fin.tw13162651487661262736 : Unit := ()
def fin.tw14574801432027512755 : Unit := ()
def fin.tw6388184931127306564 : Unit := ()
def fin.tw13294311002278339166 : Unit := ()
def fin.tw13814004702073501669 : Unit := ()
def fin.tw7278507554335971580 : Unit := ()
def fin.tw3173534031939492945 : Unit := ()
def fin.tw16196181902256332553 : Unit := ()
def fin.tw6566618420281934 : Unit := ()
def fin.tw3459265974087741279 : Unit := ()
def fin.tw17701328389417463424 : Unit := ()
def fin.tw9113340658982188547 : Unit := ()
def fin.tw16275787546110486726 : Unit := ()
def fin.tw18387650150990424433 : Unit := ()
def fin.tw6474043946942992101 : Unit := ()
def fin.tw5227809002895711924 : Unit := ()
def fin.tw13790858721211988464 : Unit := ()
def fin.tw8018989035897545986 : Unit := ()
def fin.tw11485842864857543043 : Unit := ()
def fin.tw9712136527352899355 : Unit := ()
def fin.tw12494888245299231016 : Unit := ()
def fin.tw12696600883282566439 : Unit := ()
def fin.tw8590288500278120515 : Unit := ()
def fin.tw11336253725339858928 : Unit := ()
def fin.tw13929302177132474383 : Unit := ()
def fin.tw12962497063298326498 : Unit := ()
def fin.tw16656299143469825513 : Unit := ()
def fin.tw8472697214298850164 : Unit := ()
def fin.tw16496857829328116044 : Unit := ()
def fin.tw3263211703599914710 : Unit := ()
def fin.tw9524518906428321964 : Unit := ()
def fin.tw14786503066443513839 : Unit := ()
def fin.tw17971676594858020690 : Unit := ()
def fin.tw15149952090015108872 : Unit := ()
def fin.tw12977279227502587607 : Unit := ()
def fin.tw15373703851562958014 : Unit := ()
def fin.tw5402249366112354979 : Unit := ()
def fin.tw12718612220689870738 : Unit := ()
def fin.tw17801579834951734752 : Unit := ()
def fin.tw9544026089342320630 : Unit := ()
def fin.tw11040825799340251285 : Unit := ()
def fin.tw3857263333814641470 : Unit := ()
def fin.tw9962418760945406050 : Unit := ()
def fin.tw15989303212955285315 : Unit := ()
def fin.tw15621619335703214680 : Unit := ()
def fin.tw12480679962508375977 : Unit := ()
def fin.tw11457267096318591117 : Unit := ()
def fin.tw8281523328739849912 : Unit := ()
def fin.tw15832999045522443761 : Unit := ()
def fin.tw11615019562542576733 : Unit := ()
def fin.tw251868834278440796 : Unit := ()
def fin.tw7470013935711676318 : Unit := ()
def fin.tw12409915417874342407 : Unit := ()
def fin.tw3125960719983571848 : Unit := ()
def fin.tw12932903420030652473 : Unit := ()
def fin.tw6956187926921108005 : Unit := ()
def fin.tw17495881415371897999 : Unit := ()
def fin.tw11575174756993882273 : Unit := ()
def fin.tw8383268338085895543 : Unit := ()
def fin.tw15942684835789789487 : Unit := ()
def fin.tw17512474026176034454 : Unit := ()
def fin.tw3812028171767442716 : Unit := ()
def fin.tw10671828304227620169 : Unit := ()
def fin.tw16407147864228438881 : Unit := ()
def fin.tw12829507556594621215 : Unit := ()
def fin.tw5901363791540438844 : Unit := ()
def fin.tw3762306804915933987 : Unit := ()
def fin.tw8577089030196625639 : Unit := ()
def fin.tw7779959011674639804 : Unit := ()
def fin.tw13066358836101814915 : Unit := ()
def fin.tw8999559765510592377 : Unit := ()
def fin.tw10196768644732416780 : Unit := ()
def fin.tw11079828417688620724 : Unit := ()
def fin.tw4898026214463823928 : Unit := ()
def fin.tw11151619158091525091 : Unit := ()
def fin.tw11277574374343807151 : Unit := ()
def fin.tw380778119907437045 : Unit := ()
def fin.tw6634307039904815820 : Unit := ()
def fin.tw12118000046449163591 : Unit := ()
def fin.tw17963964198891936676 : Unit := ()
def fin.tw6068950659093879613 : Unit := ()
def fin.tw17784850919643140607 : Unit := ()
def fin.tw783483362715066742 : Unit := ()
def fin.tw10895054467252067526 : Unit := ()
def fin.tw1535588207084551279 : Unit := ()
def fin.tw857469055436470443 : Unit := ()
def fin.tw5678346346211369953 : Unit := ()
def fin.tw4868334931027891882 : Unit := ()
def fin.tw13423622936843584764 : Unit := ()
def fin.tw3029852977388229646 : Unit := ()
def fin.tw2537931557510868981 : Unit := ()
def fin.tw7830602891274557492 : Unit := ()
def fin.tw9445451236469955387 : Unit := ()
def fin.tw8331973007464152698 : Unit := ()
def fin.tw8614737586434602478 : Unit := ()
def fin.tw10939691994893167182 : Unit := ()
def fin.tw12356021495744459628 : Unit := ()
def fin.tw2407141182789545092 : Unit := ()
def fin.tw7684487725183542926 : Unit := ()
def fin.tw6878024787957991413 : Unit := ()
def fin.tw12833947400113492166 : Unit := ()
def fin.tw13724452099449386491 : Unit := ()
def fin.tw16401934584784274106 : Unit := ()
def fin.tw8269367382603917829 : Unit := ()
def fin.tw14497727239971306367 : Unit := ()
def fin.tw13249466497337379595 : Unit := ()
def fin.tw8589540210433840191 : Unit := ()
def fin.tw7675655780812522254 : Unit := ()
def fin.tw1252854909445205041 : Unit := ()
def fin.tw14560573928864763818 : Unit := ()
def fin.tw480829909506669009 : Unit := ()
def fin.tw16530489862217454893 : Unit := ()
def fin.tw333583748066197110 : Unit := ()
def fin.tw1666694428299288667 : Unit := ()
def fin.tw4329306826757983850 : Unit := ()
def fin.tw12996517811204074000 : Unit := ()
def fin.tw9260378047223084069 : Unit := ()
def fin.tw2775396313129547428 : Unit := ()
def fin.tw7844069586390513008 : Unit := ()
def fin.tw4570111826955561243 : Unit := ()
def fin.tw17362494058136835672 : Unit := ()
def fin.tw1976505206021243879 : Unit := ()
def fin.tw5647864574477489665 : Unit := ()
def fin.tw10874316729293906858 : Unit := ()
def fin.tw15144710454662140524 : Unit := ()
def fin.tw14517287926952318261 : Unit := ()
def fin.tw7249652514872940865 : Unit := ()
def fin.tw10699407837109476802 : Unit := ()
def fin.tw4613182775407389354 : Unit := ()
def fin.tw11414674201277728305 : Unit := ()
def fin.tw8896352889252549814 : Unit := ()
def fin.tw13925877587632400325 : Unit := ()
def fin.tw11298980531735778240 : Unit := ()
def fin.tw11953781441336167498 : Unit := ()
def fin.tw1397303283331804279 : Unit := ()
def fin.tw18164189302063226315 : Unit := ()
def fin.tw16570786720924097770 : Unit := ()
def fin.tw1014637456484912126 : Unit := ()
def fin.tw10925335251469727208 : Unit := ()
def fin.tw2866121171748074186 : Unit := ()
def fin.tw9806666330580929782 : Unit := ()
def fin.tw13073391643564419292 : Unit := ()
def fin.tw884059145510264010 : Unit := ()
def fin.tw10007411396671696613 : Unit := ()
def fin.tw1613116972386908190 : Unit := ()
def fin.tw8399098705505230059 : Unit := ()
def fin.tw1450881378762983150 : Unit := ()
def fin.tw16269368082590959529 : Unit := ()
def fin.tw5897612983314593646 : Unit := ()
def fin.tw5776136370200156792 : Unit := ()
def fin.tw12310189802903077762 : Unit := ()
def fin.tw8668149382578428375 : Unit := ()
def fin.tw4754365596532378047 : Unit := ()
def fin.tw16285329926789087883 : Unit := ()
def fin.tw4788878847521262168 : Unit := ()
def fin.tw13467322939085005891 : Unit := ()
def fin.tw9038274934882233879 : Unit := ()
def fin.tw10875463905939285979 : Unit := ()
def fin.tw14245171486683049214 : Unit := ()
def fin.tw10242451874928486539 : Unit := ()
def fin.tw12869217540446652890 : Unit := ()
def fin.tw1887099378405440850 : Unit := ()
def fin.tw1819255440876223710 : Unit := ()
def fin.tw17197158672614542318 : Unit := ()
def fin.tw6455845175183424153 : Unit := ()
def fin.tw11273041486466551846 : Unit := ()
def fin.tw18397530887139883770 : Unit := ()
def fin.tw4797623924254395695 : Unit := ()
def fin.tw5756291457177834533 : Unit := ()
def fin.tw15273362091797676045 : Unit := ()
set_option Elab.async true in
theorem fin : PySem.Challenge.rw_jv0049_01.Holds := by
  w_on
  o_law
  o_head (kHook Mine.KF Mine.KA (fun _ => by kernel_rfl))
  (case hw => w_witness2)
  k_go0
  rename Top _ _ _ _ _ _ => hTop
  have hTop2 : Top Mine.vw LS _ _ _ _ := hTop
  k_steps
end
end

end Mine
end
theorem PySem.Challenge.cw_jv0049_01_holds : PySem.Challenge.rw_jv0049_01.Holds :=
  Mine.fin
