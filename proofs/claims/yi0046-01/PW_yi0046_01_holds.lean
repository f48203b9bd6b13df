import PyProof.Rows.All
import Wide.All
import OpenK.AllK
import Wide.FinOn
import PySem.Challenge.RW_yi0046_01
open PySem PySem.W PyProof.Rows
set_option Elab.async false
set_option maxRecDepth 100000
set_option maxHeartbeats 0
set_option linter.unusedVariables false
namespace Mine
noncomputable abbrev pw := PySem.Challenge.pw_yi0046_01
noncomputable abbrev rw := PySem.Challenge.rw_yi0046_01
def nth {α : Type} [Inhabited α] : List α → Nat → α
  | [], _ => default
  | a :: _, 0 => a
  | _ :: l, n + 1 => nth l n
def inner : Stmt → List Stmt
  | .ClassDef _ _ _ b .. => b
  | _ => []
def prm : Stmt → Arguments
  | .FunctionDef _ a .. => a
  | _ => ⟨[], [], none, [], [], none, []⟩
def bod : Stmt → List Stmt
  | .FunctionDef _ _ b .. => b
  | _ => []
def sco : Stmt → Scope
  | .FunctionDef _ _ _ _ _ _ s .. => s
  | _ => ⟨.function, [], false, false, []⟩
noncomputable def P_0 : Arguments := by
  refine' (?f : (x : Arguments) → (prm (nth pw.main.body 0) = x) → Arguments) _ ?h
  case f => exact fun x _ => x
  case h => conv => lhs; whnf
noncomputable def B_0 : List Stmt := by
  refine' (?f : (x : List Stmt) → (bod (nth pw.main.body 0) = x) → List Stmt) _ ?h
  case f => exact fun x _ => x
  case h => conv => lhs; whnf
noncomputable def S_0 : Scope := by
  refine' (?f : (x : Scope) → (sco (nth pw.main.body 0) = x) → Scope) _ ?h
  case f => exact fun x _ => x
  case h => conv => lhs; whnf
noncomputable def P_2_0 : Arguments := by
  refine' (?f : (x : Arguments) → (prm (nth (inner (nth pw.main.body 2)) 0) = x) → Arguments) _ ?h
  case f => exact fun x _ => x
  case h => conv => lhs; whnf
noncomputable def B_2_0 : List Stmt := by
  refine' (?f : (x : List Stmt) → (bod (nth (inner (nth pw.main.body 2)) 0) = x) → List Stmt) _ ?h
  case f => exact fun x _ => x
  case h => conv => lhs; whnf
noncomputable def S_2_0 : Scope := by
  refine' (?f : (x : Scope) → (sco (nth (inner (nth pw.main.body 2)) 0) = x) → Scope) _ ?h
  case f => exact fun x _ => x
  case h => conv => lhs; whnf
noncomputable def P_2_1 : Arguments := by
  refine' (?f : (x : Arguments) → (prm (nth (inner (nth pw.main.body 2)) 1) = x) → Arguments) _ ?h
  case f => exact fun x _ => x
  case h => conv => lhs; whnf
noncomputable def B_2_1 : List Stmt := by
  refine' (?f : (x : List Stmt) → (bod (nth (inner (nth pw.main.body 2)) 1) = x) → List Stmt) _ ?h
  case f => exact fun x _ => x
  case h => conv => lhs; whnf
noncomputable def S_2_1 : Scope := by
  refine' (?f : (x : Scope) → (sco (nth (inner (nth pw.main.body 2)) 1) = x) → Scope) _ ?h
  case f => exact fun x _ => x
  case h => conv => lhs; whnf
noncomputable def P_2_2 : Arguments := by
  refine' (?f : (x : Arguments) → (prm (nth (inner (nth pw.main.body 2)) 2) = x) → Arguments) _ ?h
  case f => exact fun x _ => x
  case h => conv => lhs; whnf
noncomputable def B_2_2 : List Stmt := by
  refine' (?f : (x : List Stmt) → (bod (nth (inner (nth pw.main.body 2)) 2) = x) → List Stmt) _ ?h
  case f => exact fun x _ => x
  case h => conv => lhs; whnf
noncomputable def S_2_2 : Scope := by
  refine' (?f : (x : Scope) → (sco (nth (inner (nth pw.main.body 2)) 2) = x) → Scope) _ ?h
  case f => exact fun x _ => x
  case h => conv => lhs; whnf
noncomputable def P_2_3 : Arguments := by
  refine' (?f : (x : Arguments) → (prm (nth (inner (nth pw.main.body 2)) 3) = x) → Arguments) _ ?h
  case f => exact fun x _ => x
  case h => conv => lhs; whnf
noncomputable def B_2_3 : List Stmt := by
  refine' (?f : (x : List Stmt) → (bod (nth (inner (nth pw.main.body 2)) 3) = x) → List Stmt) _ ?h
  case f => exact fun x _ => x
  case h => conv => lhs; whnf
noncomputable def S_2_3 : Scope := by
  refine' (?f : (x : Scope) → (sco (nth (inner (nth pw.main.body 2)) 3) = x) → Scope) _ ?h
  case f => exact fun x _ => x
  case h => conv => lhs; whnf
noncomputable def P_3_0 : Arguments := by
  refine' (?f : (x : Arguments) → (prm (nth (inner (nth pw.main.body 3)) 0) = x) → Arguments) _ ?h
  case f => exact fun x _ => x
  case h => conv => lhs; whnf
noncomputable def B_3_0 : List Stmt := by
  refine' (?f : (x : List Stmt) → (bod (nth (inner (nth pw.main.body 3)) 0) = x) → List Stmt) _ ?h
  case f => exact fun x _ => x
  case h => conv => lhs; whnf
noncomputable def S_3_0 : Scope := by
  refine' (?f : (x : Scope) → (sco (nth (inner (nth pw.main.body 3)) 0) = x) → Scope) _ ?h
  case f => exact fun x _ => x
  case h => conv => lhs; whnf
noncomputable def P_3_1 : Arguments := by
  refine' (?f : (x : Arguments) → (prm (nth (inner (nth pw.main.body 3)) 1) = x) → Arguments) _ ?h
  case f => exact fun x _ => x
  case h => conv => lhs; whnf
noncomputable def B_3_1 : List Stmt := by
  refine' (?f : (x : List Stmt) → (bod (nth (inner (nth pw.main.body 3)) 1) = x) → List Stmt) _ ?h
  case f => exact fun x _ => x
  case h => conv => lhs; whnf
noncomputable def S_3_1 : Scope := by
  refine' (?f : (x : Scope) → (sco (nth (inner (nth pw.main.body 3)) 1) = x) → Scope) _ ?h
  case f => exact fun x _ => x
  case h => conv => lhs; whnf
noncomputable def P_3_2 : Arguments := by
  refine' (?f : (x : Arguments) → (prm (nth (inner (nth pw.main.body 3)) 2) = x) → Arguments) _ ?h
  case f => exact fun x _ => x
  case h => conv => lhs; whnf
noncomputable def B_3_2 : List Stmt := by
  refine' (?f : (x : List Stmt) → (bod (nth (inner (nth pw.main.body 3)) 2) = x) → List Stmt) _ ?h
  case f => exact fun x _ => x
  case h => conv => lhs; whnf
noncomputable def S_3_2 : Scope := by
  refine' (?f : (x : Scope) → (sco (nth (inner (nth pw.main.body 3)) 2) = x) → Scope) _ ?h
  case f => exact fun x _ => x
  case h => conv => lhs; whnf
noncomputable def P_3_3 : Arguments := by
  refine' (?f : (x : Arguments) → (prm (nth (inner (nth pw.main.body 3)) 3) = x) → Arguments) _ ?h
  case f => exact fun x _ => x
  case h => conv => lhs; whnf
noncomputable def B_3_3 : List Stmt := by
  refine' (?f : (x : List Stmt) → (bod (nth (inner (nth pw.main.body 3)) 3) = x) → List Stmt) _ ?h
  case f => exact fun x _ => x
  case h => conv => lhs; whnf
noncomputable def S_3_3 : Scope := by
  refine' (?f : (x : Scope) → (sco (nth (inner (nth pw.main.body 3)) 3) = x) → Scope) _ ?h
  case f => exact fun x _ => x
  case h => conv => lhs; whnf
noncomputable def P_3_4 : Arguments := by
  refine' (?f : (x : Arguments) → (prm (nth (inner (nth pw.main.body 3)) 4) = x) → Arguments) _ ?h
  case f => exact fun x _ => x
  case h => conv => lhs; whnf
noncomputable def B_3_4 : List Stmt := by
  refine' (?f : (x : List Stmt) → (bod (nth (inner (nth pw.main.body 3)) 4) = x) → List Stmt) _ ?h
  case f => exact fun x _ => x
  case h => conv => lhs; whnf
noncomputable def S_3_4 : Scope := by
  refine' (?f : (x : Scope) → (sco (nth (inner (nth pw.main.body 3)) 4) = x) → Scope) _ ?h
  case f => exact fun x _ => x
  case h => conv => lhs; whnf
noncomputable def P_3_5 : Arguments := by
  refine' (?f : (x : Arguments) → (prm (nth (inner (nth pw.main.body 3)) 5) = x) → Arguments) _ ?h
  case f => exact fun x _ => x
  case h => conv => lhs; whnf
noncomputable def B_3_5 : List Stmt := by
  refine' (?f : (x : List Stmt) → (bod (nth (inner (nth pw.main.body 3)) 5) = x) → List Stmt) _ ?h
  case f => exact fun x _ => x
  case h => conv => lhs; whnf
noncomputable def S_3_5 : Scope := by
  refine' (?f : (x : Scope) → (sco (nth (inner (nth pw.main.body 3)) 5) = x) → Scope) _ ?h
  case f => exact fun x _ => x
  case h => conv => lhs; whnf
noncomputable def P_3_6 : Arguments := by
  refine' (?f : (x : Arguments) → (prm (nth (inner (nth pw.main.body 3)) 6) = x) → Arguments) _ ?h
  case f => exact fun x _ => x
  case h => conv => lhs; whnf
noncomputable def B_3_6 : List Stmt := by
  refine' (?f : (x : List Stmt) → (bod (nth (inner (nth pw.main.body 3)) 6) = x) → List Stmt) _ ?h
  case f => exact fun x _ => x
  case h => conv => lhs; whnf
noncomputable def S_3_6 : Scope := by
  refine' (?f : (x : Scope) → (sco (nth (inner (nth pw.main.body 3)) 6) = x) → Scope) _ ?h
  case f => exact fun x _ => x
  case h => conv => lhs; whnf
noncomputable def P_3_7 : Arguments := by
  refine' (?f : (x : Arguments) → (prm (nth (inner (nth pw.main.body 3)) 7) = x) → Arguments) _ ?h
  case f => exact fun x _ => x
  case h => conv => lhs; whnf
noncomputable def B_3_7 : List Stmt := by
  refine' (?f : (x : List Stmt) → (bod (nth (inner (nth pw.main.body 3)) 7) = x) → List Stmt) _ ?h
  case f => exact fun x _ => x
  case h => conv => lhs; whnf
noncomputable def S_3_7 : Scope := by
  refine' (?f : (x : Scope) → (sco (nth (inner (nth pw.main.body 3)) 7) = x) → Scope) _ ?h
  case f => exact fun x _ => x
  case h => conv => lhs; whnf
noncomputable def P_3_8 : Arguments := by
  refine' (?f : (x : Arguments) → (prm (nth (inner (nth pw.main.body 3)) 8) = x) → Arguments) _ ?h
  case f => exact fun x _ => x
  case h => conv => lhs; whnf
noncomputable def B_3_8 : List Stmt := by
  refine' (?f : (x : List Stmt) → (bod (nth (inner (nth pw.main.body 3)) 8) = x) → List Stmt) _ ?h
  case f => exact fun x _ => x
  case h => conv => lhs; whnf
noncomputable def S_3_8 : Scope := by
  refine' (?f : (x : Scope) → (sco (nth (inner (nth pw.main.body 3)) 8) = x) → Scope) _ ?h
  case f => exact fun x _ => x
  case h => conv => lhs; whnf
noncomputable def P_3_9 : Arguments := by
  refine' (?f : (x : Arguments) → (prm (nth (inner (nth pw.main.body 3)) 9) = x) → Arguments) _ ?h
  case f => exact fun x _ => x
  case h => conv => lhs; whnf
noncomputable def B_3_9 : List Stmt := by
  refine' (?f : (x : List Stmt) → (bod (nth (inner (nth pw.main.body 3)) 9) = x) → List Stmt) _ ?h
  case f => exact fun x _ => x
  case h => conv => lhs; whnf
noncomputable def S_3_9 : Scope := by
  refine' (?f : (x : Scope) → (sco (nth (inner (nth pw.main.body 3)) 9) = x) → Scope) _ ?h
  case f => exact fun x _ => x
  case h => conv => lhs; whnf
noncomputable def P_3_10 : Arguments := by
  refine' (?f : (x : Arguments) → (prm (nth (inner (nth pw.main.body 3)) 10) = x) → Arguments) _ ?h
  case f => exact fun x _ => x
  case h => conv => lhs; whnf
noncomputable def B_3_10 : List Stmt := by
  refine' (?f : (x : List Stmt) → (bod (nth (inner (nth pw.main.body 3)) 10) = x) → List Stmt) _ ?h
  case f => exact fun x _ => x
  case h => conv => lhs; whnf
noncomputable def S_3_10 : Scope := by
  refine' (?f : (x : Scope) → (sco (nth (inner (nth pw.main.body 3)) 10) = x) → Scope) _ ?h
  case f => exact fun x _ => x
  case h => conv => lhs; whnf
noncomputable def P_3_11 : Arguments := by
  refine' (?f : (x : Arguments) → (prm (nth (inner (nth pw.main.body 3)) 11) = x) → Arguments) _ ?h
  case f => exact fun x _ => x
  case h => conv => lhs; whnf
noncomputable def B_3_11 : List Stmt := by
  refine' (?f : (x : List Stmt) → (bod (nth (inner (nth pw.main.body 3)) 11) = x) → List Stmt) _ ?h
  case f => exact fun x _ => x
  case h => conv => lhs; whnf
noncomputable def S_3_11 : Scope := by
  refine' (?f : (x : Scope) → (sco (nth (inner (nth pw.main.body 3)) 11) = x) → Scope) _ ?h
  case f => exact fun x _ => x
  case h => conv => lhs; whnf
noncomputable def P_3_12 : Arguments := by
  refine' (?f : (x : Arguments) → (prm (nth (inner (nth pw.main.body 3)) 12) = x) → Arguments) _ ?h
  case f => exact fun x _ => x
  case h => conv => lhs; whnf
noncomputable def B_3_12 : List Stmt := by
  refine' (?f : (x : List Stmt) → (bod (nth (inner (nth pw.main.body 3)) 12) = x) → List Stmt) _ ?h
  case f => exact fun x _ => x
  case h => conv => lhs; whnf
noncomputable def S_3_12 : Scope := by
  refine' (?f : (x : Scope) → (sco (nth (inner (nth pw.main.body 3)) 12) = x) → Scope) _ ?h
  case f => exact fun x _ => x
  case h => conv => lhs; whnf
noncomputable def P_3_13 : Arguments := by
  refine' (?f : (x : Arguments) → (prm (nth (inner (nth pw.main.body 3)) 13) = x) → Arguments) _ ?h
  case f => exact fun x _ => x
  case h => conv => lhs; whnf
noncomputable def B_3_13 : List Stmt := by
  refine' (?f : (x : List Stmt) → (bod (nth (inner (nth pw.main.body 3)) 13) = x) → List Stmt) _ ?h
  case f => exact fun x _ => x
  case h => conv => lhs; whnf
noncomputable def S_3_13 : Scope := by
  refine' (?f : (x : Scope) → (sco (nth (inner (nth pw.main.body 3)) 13) = x) → Scope) _ ?h
  case f => exact fun x _ => x
  case h => conv => lhs; whnf
noncomputable def P_3_14 : Arguments := by
  refine' (?f : (x : Arguments) → (prm (nth (inner (nth pw.main.body 3)) 14) = x) → Arguments) _ ?h
  case f => exact fun x _ => x
  case h => conv => lhs; whnf
noncomputable def B_3_14 : List Stmt := by
  refine' (?f : (x : List Stmt) → (bod (nth (inner (nth pw.main.body 3)) 14) = x) → List Stmt) _ ?h
  case f => exact fun x _ => x
  case h => conv => lhs; whnf
noncomputable def S_3_14 : Scope := by
  refine' (?f : (x : Scope) → (sco (nth (inner (nth pw.main.body 3)) 14) = x) → Scope) _ ?h
  case f => exact fun x _ => x
  case h => conv => lhs; whnf
noncomputable def P_3_15 : Arguments := by
  refine' (?f : (x : Arguments) → (prm (nth (inner (nth pw.main.body 3)) 15) = x) → Arguments) _ ?h
  case f => exact fun x _ => x
  case h => conv => lhs; whnf
noncomputable def B_3_15 : List Stmt := by
  refine' (?f : (x : List Stmt) → (bod (nth (inner (nth pw.main.body 3)) 15) = x) → List Stmt) _ ?h
  case f => exact fun x _ => x
  case h => conv => lhs; whnf
noncomputable def S_3_15 : Scope := by
  refine' (?f : (x : Scope) → (sco (nth (inner (nth pw.main.body 3)) 15) = x) → Scope) _ ?h
  case f => exact fun x _ => x
  case h => conv => lhs; whnf
noncomputable def P_3_16 : Arguments := by
  refine' (?f : (x : Arguments) → (prm (nth (inner (nth pw.main.body 3)) 16) = x) → Arguments) _ ?h
  case f => exact fun x _ => x
  case h => conv => lhs; whnf
noncomputable def B_3_16 : List Stmt := by
  refine' (?f : (x : List Stmt) → (bod (nth (inner (nth pw.main.body 3)) 16) = x) → List Stmt) _ ?h
  case f => exact fun x _ => x
  case h => conv => lhs; whnf
noncomputable def S_3_16 : Scope := by
  refine' (?f : (x : Scope) → (sco (nth (inner (nth pw.main.body 3)) 16) = x) → Scope) _ ?h
  case f => exact fun x _ => x
  case h => conv => lhs; whnf
noncomputable def P_3_17 : Arguments := by
  refine' (?f : (x : Arguments) → (prm (nth (inner (nth pw.main.body 3)) 17) = x) → Arguments) _ ?h
  case f => exact fun x _ => x
  case h => conv => lhs; whnf
noncomputable def B_3_17 : List Stmt := by
  refine' (?f : (x : List Stmt) → (bod (nth (inner (nth pw.main.body 3)) 17) = x) → List Stmt) _ ?h
  case f => exact fun x _ => x
  case h => conv => lhs; whnf
noncomputable def S_3_17 : Scope := by
  refine' (?f : (x : Scope) → (sco (nth (inner (nth pw.main.body 3)) 17) = x) → Scope) _ ?h
  case f => exact fun x _ => x
  case h => conv => lhs; whnf
noncomputable def P_3_18 : Arguments := by
  refine' (?f : (x : Arguments) → (prm (nth (inner (nth pw.main.body 3)) 18) = x) → Arguments) _ ?h
  case f => exact fun x _ => x
  case h => conv => lhs; whnf
noncomputable def B_3_18 : List Stmt := by
  refine' (?f : (x : List Stmt) → (bod (nth (inner (nth pw.main.body 3)) 18) = x) → List Stmt) _ ?h
  case f => exact fun x _ => x
  case h => conv => lhs; whnf
noncomputable def S_3_18 : Scope := by
  refine' (?f : (x : Scope) → (sco (nth (inner (nth pw.main.body 3)) 18) = x) → Scope) _ ?h
  case f => exact fun x _ => x
  case h => conv => lhs; whnf
noncomputable def P_3_19 : Arguments := by
  refine' (?f : (x : Arguments) → (prm (nth (inner (nth pw.main.body 3)) 19) = x) → Arguments) _ ?h
  case f => exact fun x _ => x
  case h => conv => lhs; whnf
noncomputable def B_3_19 : List Stmt := by
  refine' (?f : (x : List Stmt) → (bod (nth (inner (nth pw.main.body 3)) 19) = x) → List Stmt) _ ?h
  case f => exact fun x _ => x
  case h => conv => lhs; whnf
noncomputable def S_3_19 : Scope := by
  refine' (?f : (x : Scope) → (sco (nth (inner (nth pw.main.body 3)) 19) = x) → Scope) _ ?h
  case f => exact fun x _ => x
  case h => conv => lhs; whnf
noncomputable def P_3_20 : Arguments := by
  refine' (?f : (x : Arguments) → (prm (nth (inner (nth pw.main.body 3)) 20) = x) → Arguments) _ ?h
  case f => exact fun x _ => x
  case h => conv => lhs; whnf
noncomputable def B_3_20 : List Stmt := by
  refine' (?f : (x : List Stmt) → (bod (nth (inner (nth pw.main.body 3)) 20) = x) → List Stmt) _ ?h
  case f => exact fun x _ => x
  case h => conv => lhs; whnf
noncomputable def S_3_20 : Scope := by
  refine' (?f : (x : Scope) → (sco (nth (inner (nth pw.main.body 3)) 20) = x) → Scope) _ ?h
  case f => exact fun x _ => x
  case h => conv => lhs; whnf
noncomputable def P_3_21 : Arguments := by
  refine' (?f : (x : Arguments) → (prm (nth (inner (nth pw.main.body 3)) 21) = x) → Arguments) _ ?h
  case f => exact fun x _ => x
  case h => conv => lhs; whnf
noncomputable def B_3_21 : List Stmt := by
  refine' (?f : (x : List Stmt) → (bod (nth (inner (nth pw.main.body 3)) 21) = x) → List Stmt) _ ?h
  case f => exact fun x _ => x
  case h => conv => lhs; whnf
noncomputable def S_3_21 : Scope := by
  refine' (?f : (x : Scope) → (sco (nth (inner (nth pw.main.body 3)) 21) = x) → Scope) _ ?h
  case f => exact fun x _ => x
  case h => conv => lhs; whnf
noncomputable def P_3_22 : Arguments := by
  refine' (?f : (x : Arguments) → (prm (nth (inner (nth pw.main.body 3)) 22) = x) → Arguments) _ ?h
  case f => exact fun x _ => x
  case h => conv => lhs; whnf
noncomputable def B_3_22 : List Stmt := by
  refine' (?f : (x : List Stmt) → (bod (nth (inner (nth pw.main.body 3)) 22) = x) → List Stmt) _ ?h
  case f => exact fun x _ => x
  case h => conv => lhs; whnf
noncomputable def S_3_22 : Scope := by
  refine' (?f : (x : Scope) → (sco (nth (inner (nth pw.main.body 3)) 22) = x) → Scope) _ ?h
  case f => exact fun x _ => x
  case h => conv => lhs; whnf
noncomputable def P_5_0 : Arguments := by
  refine' (?f : (x : Arguments) → (prm (nth (inner (nth pw.main.body 5)) 0) = x) → Arguments) _ ?h
  case f => exact fun x _ => x
  case h => conv => lhs; whnf
noncomputable def B_5_0 : List Stmt := by
  refine' (?f : (x : List Stmt) → (bod (nth (inner (nth pw.main.body 5)) 0) = x) → List Stmt) _ ?h
  case f => exact fun x _ => x
  case h => conv => lhs; whnf
noncomputable def S_5_0 : Scope := by
  refine' (?f : (x : Scope) → (sco (nth (inner (nth pw.main.body 5)) 0) = x) → Scope) _ ?h
  case f => exact fun x _ => x
  case h => conv => lhs; whnf
noncomputable def P_5_1 : Arguments := by
  refine' (?f : (x : Arguments) → (prm (nth (inner (nth pw.main.body 5)) 1) = x) → Arguments) _ ?h
  case f => exact fun x _ => x
  case h => conv => lhs; whnf
noncomputable def B_5_1 : List Stmt := by
  refine' (?f : (x : List Stmt) → (bod (nth (inner (nth pw.main.body 5)) 1) = x) → List Stmt) _ ?h
  case f => exact fun x _ => x
  case h => conv => lhs; whnf
noncomputable def S_5_1 : Scope := by
  refine' (?f : (x : Scope) → (sco (nth (inner (nth pw.main.body 5)) 1) = x) → Scope) _ ?h
  case f => exact fun x _ => x
  case h => conv => lhs; whnf
noncomputable def P_5_2 : Arguments := by
  refine' (?f : (x : Arguments) → (prm (nth (inner (nth pw.main.body 5)) 2) = x) → Arguments) _ ?h
  case f => exact fun x _ => x
  case h => conv => lhs; whnf
noncomputable def B_5_2 : List Stmt := by
  refine' (?f : (x : List Stmt) → (bod (nth (inner (nth pw.main.body 5)) 2) = x) → List Stmt) _ ?h
  case f => exact fun x _ => x
  case h => conv => lhs; whnf
noncomputable def S_5_2 : Scope := by
  refine' (?f : (x : Scope) → (sco (nth (inner (nth pw.main.body 5)) 2) = x) → Scope) _ ?h
  case f => exact fun x _ => x
  case h => conv => lhs; whnf
noncomputable def P_5_3 : Arguments := by
  refine' (?f : (x : Arguments) → (prm (nth (inner (nth pw.main.body 5)) 3) = x) → Arguments) _ ?h
  case f => exact fun x _ => x
  case h => conv => lhs; whnf
noncomputable def B_5_3 : List Stmt := by
  refine' (?f : (x : List Stmt) → (bod (nth (inner (nth pw.main.body 5)) 3) = x) → List Stmt) _ ?h
  case f => exact fun x _ => x
  case h => conv => lhs; whnf
noncomputable def S_5_3 : Scope := by
  refine' (?f : (x : Scope) → (sco (nth (inner (nth pw.main.body 5)) 3) = x) → Scope) _ ?h
  case f => exact fun x _ => x
  case h => conv => lhs; whnf
noncomputable def P_5_4 : Arguments := by
  refine' (?f : (x : Arguments) → (prm (nth (inner (nth pw.main.body 5)) 4) = x) → Arguments) _ ?h
  case f => exact fun x _ => x
  case h => conv => lhs; whnf
noncomputable def B_5_4 : List Stmt := by
  refine' (?f : (x : List Stmt) → (bod (nth (inner (nth pw.main.body 5)) 4) = x) → List Stmt) _ ?h
  case f => exact fun x _ => x
  case h => conv => lhs; whnf
noncomputable def S_5_4 : Scope := by
  refine' (?f : (x : Scope) → (sco (nth (inner (nth pw.main.body 5)) 4) = x) → Scope) _ ?h
  case f => exact fun x _ => x
  case h => conv => lhs; whnf
noncomputable def P_5_5 : Arguments := by
  refine' (?f : (x : Arguments) → (prm (nth (inner (nth pw.main.body 5)) 5) = x) → Arguments) _ ?h
  case f => exact fun x _ => x
  case h => conv => lhs; whnf
noncomputable def B_5_5 : List Stmt := by
  refine' (?f : (x : List Stmt) → (bod (nth (inner (nth pw.main.body 5)) 5) = x) → List Stmt) _ ?h
  case f => exact fun x _ => x
  case h => conv => lhs; whnf
noncomputable def S_5_5 : Scope := by
  refine' (?f : (x : Scope) → (sco (nth (inner (nth pw.main.body 5)) 5) = x) → Scope) _ ?h
  case f => exact fun x _ => x
  case h => conv => lhs; whnf
noncomputable def P_6_0 : Arguments := by
  refine' (?f : (x : Arguments) → (prm (nth (inner (nth pw.main.body 6)) 0) = x) → Arguments) _ ?h
  case f => exact fun x _ => x
  case h => conv => lhs; whnf
noncomputable def B_6_0 : List Stmt := by
  refine' (?f : (x : List Stmt) → (bod (nth (inner (nth pw.main.body 6)) 0) = x) → List Stmt) _ ?h
  case f => exact fun x _ => x
  case h => conv => lhs; whnf
noncomputable def S_6_0 : Scope := by
  refine' (?f : (x : Scope) → (sco (nth (inner (nth pw.main.body 6)) 0) = x) → Scope) _ ?h
  case f => exact fun x _ => x
  case h => conv => lhs; whnf
noncomputable def P_6_1 : Arguments := by
  refine' (?f : (x : Arguments) → (prm (nth (inner (nth pw.main.body 6)) 1) = x) → Arguments) _ ?h
  case f => exact fun x _ => x
  case h => conv => lhs; whnf
noncomputable def B_6_1 : List Stmt := by
  refine' (?f : (x : List Stmt) → (bod (nth (inner (nth pw.main.body 6)) 1) = x) → List Stmt) _ ?h
  case f => exact fun x _ => x
  case h => conv => lhs; whnf
noncomputable def S_6_1 : Scope := by
  refine' (?f : (x : Scope) → (sco (nth (inner (nth pw.main.body 6)) 1) = x) → Scope) _ ?h
  case f => exact fun x _ => x
  case h => conv => lhs; whnf
noncomputable def P_6_2 : Arguments := by
  refine' (?f : (x : Arguments) → (prm (nth (inner (nth pw.main.body 6)) 2) = x) → Arguments) _ ?h
  case f => exact fun x _ => x
  case h => conv => lhs; whnf
noncomputable def B_6_2 : List Stmt := by
  refine' (?f : (x : List Stmt) → (bod (nth (inner (nth pw.main.body 6)) 2) = x) → List Stmt) _ ?h
  case f => exact fun x _ => x
  case h => conv => lhs; whnf
noncomputable def S_6_2 : Scope := by
  refine' (?f : (x : Scope) → (sco (nth (inner (nth pw.main.body 6)) 2) = x) → Scope) _ ?h
  case f => exact fun x _ => x
  case h => conv => lhs; whnf
noncomputable def P_6_3 : Arguments := by
  refine' (?f : (x : Arguments) → (prm (nth (inner (nth pw.main.body 6)) 3) = x) → Arguments) _ ?h
  case f => exact fun x _ => x
  case h => conv => lhs; whnf
noncomputable def B_6_3 : List Stmt := by
  refine' (?f : (x : List Stmt) → (bod (nth (inner (nth pw.main.body 6)) 3) = x) → List Stmt) _ ?h
  case f => exact fun x _ => x
  case h => conv => lhs; whnf
noncomputable def S_6_3 : Scope := by
  refine' (?f : (x : Scope) → (sco (nth (inner (nth pw.main.body 6)) 3) = x) → Scope) _ ?h
  case f => exact fun x _ => x
  case h => conv => lhs; whnf
noncomputable def P_6_4 : Arguments := by
  refine' (?f : (x : Arguments) → (prm (nth (inner (nth pw.main.body 6)) 4) = x) → Arguments) _ ?h
  case f => exact fun x _ => x
  case h => conv => lhs; whnf
noncomputable def B_6_4 : List Stmt := by
  refine' (?f : (x : List Stmt) → (bod (nth (inner (nth pw.main.body 6)) 4) = x) → List Stmt) _ ?h
  case f => exact fun x _ => x
  case h => conv => lhs; whnf
noncomputable def S_6_4 : Scope := by
  refine' (?f : (x : Scope) → (sco (nth (inner (nth pw.main.body 6)) 4) = x) → Scope) _ ?h
  case f => exact fun x _ => x
  case h => conv => lhs; whnf
noncomputable def P_6_5 : Arguments := by
  refine' (?f : (x : Arguments) → (prm (nth (inner (nth pw.main.body 6)) 5) = x) → Arguments) _ ?h
  case f => exact fun x _ => x
  case h => conv => lhs; whnf
noncomputable def B_6_5 : List Stmt := by
  refine' (?f : (x : List Stmt) → (bod (nth (inner (nth pw.main.body 6)) 5) = x) → List Stmt) _ ?h
  case f => exact fun x _ => x
  case h => conv => lhs; whnf
noncomputable def S_6_5 : Scope := by
  refine' (?f : (x : Scope) → (sco (nth (inner (nth pw.main.body 6)) 5) = x) → Scope) _ ?h
  case f => exact fun x _ => x
  case h => conv => lhs; whnf
noncomputable def P_6_6 : Arguments := by
  refine' (?f : (x : Arguments) → (prm (nth (inner (nth pw.main.body 6)) 6) = x) → Arguments) _ ?h
  case f => exact fun x _ => x
  case h => conv => lhs; whnf
noncomputable def B_6_6 : List Stmt := by
  refine' (?f : (x : List Stmt) → (bod (nth (inner (nth pw.main.body 6)) 6) = x) → List Stmt) _ ?h
  case f => exact fun x _ => x
  case h => conv => lhs; whnf
noncomputable def S_6_6 : Scope := by
  refine' (?f : (x : Scope) → (sco (nth (inner (nth pw.main.body 6)) 6) = x) → Scope) _ ?h
  case f => exact fun x _ => x
  case h => conv => lhs; whnf
noncomputable def P_6_7 : Arguments := by
  refine' (?f : (x : Arguments) → (prm (nth (inner (nth pw.main.body 6)) 7) = x) → Arguments) _ ?h
  case f => exact fun x _ => x
  case h => conv => lhs; whnf
noncomputable def B_6_7 : List Stmt := by
  refine' (?f : (x : List Stmt) → (bod (nth (inner (nth pw.main.body 6)) 7) = x) → List Stmt) _ ?h
  case f => exact fun x _ => x
  case h => conv => lhs; whnf
noncomputable def S_6_7 : Scope := by
  refine' (?f : (x : Scope) → (sco (nth (inner (nth pw.main.body 6)) 7) = x) → Scope) _ ?h
  case f => exact fun x _ => x
  case h => conv => lhs; whnf
noncomputable def P_7_0 : Arguments := by
  refine' (?f : (x : Arguments) → (prm (nth (inner (nth pw.main.body 7)) 0) = x) → Arguments) _ ?h
  case f => exact fun x _ => x
  case h => conv => lhs; whnf
noncomputable def B_7_0 : List Stmt := by
  refine' (?f : (x : List Stmt) → (bod (nth (inner (nth pw.main.body 7)) 0) = x) → List Stmt) _ ?h
  case f => exact fun x _ => x
  case h => conv => lhs; whnf
noncomputable def S_7_0 : Scope := by
  refine' (?f : (x : Scope) → (sco (nth (inner (nth pw.main.body 7)) 0) = x) → Scope) _ ?h
  case f => exact fun x _ => x
  case h => conv => lhs; whnf
noncomputable def P_7_1 : Arguments := by
  refine' (?f : (x : Arguments) → (prm (nth (inner (nth pw.main.body 7)) 1) = x) → Arguments) _ ?h
  case f => exact fun x _ => x
  case h => conv => lhs; whnf
noncomputable def B_7_1 : List Stmt := by
  refine' (?f : (x : List Stmt) → (bod (nth (inner (nth pw.main.body 7)) 1) = x) → List Stmt) _ ?h
  case f => exact fun x _ => x
  case h => conv => lhs; whnf
noncomputable def S_7_1 : Scope := by
  refine' (?f : (x : Scope) → (sco (nth (inner (nth pw.main.body 7)) 1) = x) → Scope) _ ?h
  case f => exact fun x _ => x
  case h => conv => lhs; whnf
noncomputable def P_7_2 : Arguments := by
  refine' (?f : (x : Arguments) → (prm (nth (inner (nth pw.main.body 7)) 2) = x) → Arguments) _ ?h
  case f => exact fun x _ => x
  case h => conv => lhs; whnf
noncomputable def B_7_2 : List Stmt := by
  refine' (?f : (x : List Stmt) → (bod (nth (inner (nth pw.main.body 7)) 2) = x) → List Stmt) _ ?h
  case f => exact fun x _ => x
  case h => conv => lhs; whnf
noncomputable def S_7_2 : Scope := by
  refine' (?f : (x : Scope) → (sco (nth (inner (nth pw.main.body 7)) 2) = x) → Scope) _ ?h
  case f => exact fun x _ => x
  case h => conv => lhs; whnf
noncomputable def P_7_3 : Arguments := by
  refine' (?f : (x : Arguments) → (prm (nth (inner (nth pw.main.body 7)) 3) = x) → Arguments) _ ?h
  case f => exact fun x _ => x
  case h => conv => lhs; whnf
noncomputable def B_7_3 : List Stmt := by
  refine' (?f : (x : List Stmt) → (bod (nth (inner (nth pw.main.body 7)) 3) = x) → List Stmt) _ ?h
  case f => exact fun x _ => x
  case h => conv => lhs; whnf
noncomputable def S_7_3 : Scope := by
  refine' (?f : (x : Scope) → (sco (nth (inner (nth pw.main.body 7)) 3) = x) → Scope) _ ?h
  case f => exact fun x _ => x
  case h => conv => lhs; whnf
noncomputable def P_7_4 : Arguments := by
  refine' (?f : (x : Arguments) → (prm (nth (inner (nth pw.main.body 7)) 4) = x) → Arguments) _ ?h
  case f => exact fun x _ => x
  case h => conv => lhs; whnf
noncomputable def B_7_4 : List Stmt := by
  refine' (?f : (x : List Stmt) → (bod (nth (inner (nth pw.main.body 7)) 4) = x) → List Stmt) _ ?h
  case f => exact fun x _ => x
  case h => conv => lhs; whnf
noncomputable def S_7_4 : Scope := by
  refine' (?f : (x : Scope) → (sco (nth (inner (nth pw.main.body 7)) 4) = x) → Scope) _ ?h
  case f => exact fun x _ => x
  case h => conv => lhs; whnf
noncomputable def P_7_5 : Arguments := by
  refine' (?f : (x : Arguments) → (prm (nth (inner (nth pw.main.body 7)) 5) = x) → Arguments) _ ?h
  case f => exact fun x _ => x
  case h => conv => lhs; whnf
noncomputable def B_7_5 : List Stmt := by
  refine' (?f : (x : List Stmt) → (bod (nth (inner (nth pw.main.body 7)) 5) = x) → List Stmt) _ ?h
  case f => exact fun x _ => x
  case h => conv => lhs; whnf
noncomputable def S_7_5 : Scope := by
  refine' (?f : (x : Scope) → (sco (nth (inner (nth pw.main.body 7)) 5) = x) → Scope) _ ?h
  case f => exact fun x _ => x
  case h => conv => lhs; whnf
noncomputable def P_7_6 : Arguments := by
  refine' (?f : (x : Arguments) → (prm (nth (inner (nth pw.main.body 7)) 6) = x) → Arguments) _ ?h
  case f => exact fun x _ => x
  case h => conv => lhs; whnf
noncomputable def B_7_6 : List Stmt := by
  refine' (?f : (x : List Stmt) → (bod (nth (inner (nth pw.main.body 7)) 6) = x) → List Stmt) _ ?h
  case f => exact fun x _ => x
  case h => conv => lhs; whnf
noncomputable def S_7_6 : Scope := by
  refine' (?f : (x : Scope) → (sco (nth (inner (nth pw.main.body 7)) 6) = x) → Scope) _ ?h
  case f => exact fun x _ => x
  case h => conv => lhs; whnf
noncomputable def P_7_7 : Arguments := by
  refine' (?f : (x : Arguments) → (prm (nth (inner (nth pw.main.body 7)) 7) = x) → Arguments) _ ?h
  case f => exact fun x _ => x
  case h => conv => lhs; whnf
noncomputable def B_7_7 : List Stmt := by
  refine' (?f : (x : List Stmt) → (bod (nth (inner (nth pw.main.body 7)) 7) = x) → List Stmt) _ ?h
  case f => exact fun x _ => x
  case h => conv => lhs; whnf
noncomputable def S_7_7 : Scope := by
  refine' (?f : (x : Scope) → (sco (nth (inner (nth pw.main.body 7)) 7) = x) → Scope) _ ?h
  case f => exact fun x _ => x
  case h => conv => lhs; whnf
noncomputable def P_7_8 : Arguments := by
  refine' (?f : (x : Arguments) → (prm (nth (inner (nth pw.main.body 7)) 8) = x) → Arguments) _ ?h
  case f => exact fun x _ => x
  case h => conv => lhs; whnf
noncomputable def B_7_8 : List Stmt := by
  refine' (?f : (x : List Stmt) → (bod (nth (inner (nth pw.main.body 7)) 8) = x) → List Stmt) _ ?h
  case f => exact fun x _ => x
  case h => conv => lhs; whnf
noncomputable def S_7_8 : Scope := by
  refine' (?f : (x : Scope) → (sco (nth (inner (nth pw.main.body 7)) 8) = x) → Scope) _ ?h
  case f => exact fun x _ => x
  case h => conv => lhs; whnf
noncomputable def P_9 : Arguments := by
  refine' (?f : (x : Arguments) → (prm (nth pw.main.body 9) = x) → Arguments) _ ?h
  case f => exact fun x _ => x
  case h => conv => lhs; whnf
noncomputable def B_9 : List Stmt := by
  refine' (?f : (x : List Stmt) → (bod (nth pw.main.body 9) = x) → List Stmt) _ ?h
  case f => exact fun x _ => x
  case h => conv => lhs; whnf
noncomputable def S_9 : Scope := by
  refine' (?f : (x : Scope) → (sco (nth pw.main.body 9) = x) → Scope) _ ?h
  case f => exact fun x _ => x
  case h => conv => lhs; whnf
noncomputable def P_10 : Arguments := by
  refine' (?f : (x : Arguments) → (prm (nth pw.main.body 10) = x) → Arguments) _ ?h
  case f => exact fun x _ => x
  case h => conv => lhs; whnf
noncomputable def B_10 : List Stmt := by
  refine' (?f : (x : List Stmt) → (bod (nth pw.main.body 10) = x) → List Stmt) _ ?h
  case f => exact fun x _ => x
  case h => conv => lhs; whnf
noncomputable def S_10 : Scope := by
  refine' (?f : (x : Scope) → (sco (nth pw.main.body 10) = x) → Scope) _ ?h
  case f => exact fun x _ => x
  case h => conv => lhs; whnf
noncomputable def P_11 : Arguments := by
  refine' (?f : (x : Arguments) → (prm (nth pw.main.body 11) = x) → Arguments) _ ?h
  case f => exact fun x _ => x
  case h => conv => lhs; whnf
noncomputable def B_11 : List Stmt := by
  refine' (?f : (x : List Stmt) → (bod (nth pw.main.body 11) = x) → List Stmt) _ ?h
  case f => exact fun x _ => x
  case h => conv => lhs; whnf
noncomputable def S_11 : Scope := by
  refine' (?f : (x : Scope) → (sco (nth pw.main.body 11) = x) → Scope) _ ?h
  case f => exact fun x _ => x
  case h => conv => lhs; whnf
noncomputable def P_12 : Arguments := by
  refine' (?f : (x : Arguments) → (prm (nth pw.main.body 12) = x) → Arguments) _ ?h
  case f => exact fun x _ => x
  case h => conv => lhs; whnf
noncomputable def B_12 : List Stmt := by
  refine' (?f : (x : List Stmt) → (bod (nth pw.main.body 12) = x) → List Stmt) _ ?h
  case f => exact fun x _ => x
  case h => conv => lhs; whnf
noncomputable def S_12 : Scope := by
  refine' (?f : (x : Scope) → (sco (nth pw.main.body 12) = x) → Scope) _ ?h
  case f => exact fun x _ => x
  case h => conv => lhs; whnf
noncomputable def P_13 : Arguments := by
  refine' (?f : (x : Arguments) → (prm (nth pw.main.body 13) = x) → Arguments) _ ?h
  case f => exact fun x _ => x
  case h => conv => lhs; whnf
noncomputable def B_13 : List Stmt := by
  refine' (?f : (x : List Stmt) → (bod (nth pw.main.body 13) = x) → List Stmt) _ ?h
  case f => exact fun x _ => x
  case h => conv => lhs; whnf
noncomputable def S_13 : Scope := by
  refine' (?f : (x : Scope) → (sco (nth pw.main.body 13) = x) → Scope) _ ?h
  case f => exact fun x _ => x
  case h => conv => lhs; whnf
noncomputable def K : Params → Frag := fun P => by
  refine' (?f : (x : Frag) → ((
    (nat_lit 2, { cls := Value.none, data := Data.dict #[] }) ::
    (nat_lit 3, { cls := Value.type "dict", data := Data.dict #[{ hash := PyData.keyHash P (Str.ofString "__name__"), key := Value.str (Str.ofString "__name__") 165, val := Value.str (Str.ofString "law_yi0046_01") 742 }, { hash := PyData.keyHash P (Str.ofString "__doc__"), key := Value.str (Str.ofString "__doc__") 166, val := Value.none }, { hash := PyData.keyHash P (Str.ofString "__package__"), key := Value.str (Str.ofString "__package__") 167, val := Value.none }, { hash := PyData.keyHash P (Str.ofString "__loader__"), key := Value.str (Str.ofString "__loader__") 168, val := Value.builtin "__main__.__loader__#opaque" }, { hash := PyData.keyHash P (Str.ofString "__spec__"), key := Value.str (Str.ofString "__spec__") 169, val := Value.none }, { hash := PyData.keyHash P (Str.ofString "__annotations__"), key := Value.str (Str.ofString "__annotations__") 170, val := Value.ref 6 }, { hash := PyData.keyHash P (Str.ofString "__builtins__"), key := Value.str (Str.ofString "__builtins__") 171, val := Value.ref 4 }, { hash := PyData.keyHash P (Str.ofString "__file__"), key := Value.str (Str.ofString "__file__") 173, val := Value.str (Str.ofString "/claim/cut.py") 172 }, { hash := PyData.keyHash P (Str.ofString "__cached__"), key := Value.str (Str.ofString "__cached__") 174, val := Value.none }, { hash := PyData.keyHash P (Str.ofString "_wall"), key := Value.str (Str.ofString "_wall") 193, val := Value.ref 21 }, { hash := PyData.keyHash P (Str.ofString "GenericPolynomialRing"), key := Value.str (Str.ofString "GenericPolynomialRing") 248, val := Value.ref 59 }, { hash := PyData.keyHash P (Str.ofString "GenericPolynomial"), key := Value.str (Str.ofString "GenericPolynomial") 447, val := Value.ref 222 }, { hash := PyData.keyHash P (Str.ofString "PolynomialRing"), key := Value.str (Str.ofString "PolynomialRing") 533, val := Value.ref 282 }, { hash := PyData.keyHash P (Str.ofString "Polynomial"), key := Value.str (Str.ofString "Polynomial") 616, val := Value.ref 350 }, { hash := PyData.keyHash P (Str.ofString "PolynomialNTT"), key := Value.str (Str.ofString "PolynomialNTT") 741, val := Value.ref 426 }, { hash := PyData.keyHash P (Str.ofString "_law_state"), key := Value.str (Str.ofString "_law_state") 749, val := Value.ref 433 }, { hash := PyData.keyHash P (Str.ofString "_law_take"), key := Value.str (Str.ofString "_law_take") 761, val := Value.ref 440 }, { hash := PyData.keyHash P (Str.ofString "_law_root"), key := Value.str (Str.ofString "_law_root") 770, val := Value.ref 447 }, { hash := PyData.keyHash P (Str.ofString "_law_transform"), key := Value.str (Str.ofString "_law_transform") 781, val := Value.ref 454 }, { hash := PyData.keyHash P (Str.ofString "law"), key := Value.str (Str.ofString "law") 787, val := Value.ref 459 }] 20 }) ::
    (nat_lit 15, { cls := Value.type "tuple", data := Data.seq #[] }) ::
    (nat_lit 17, { cls := Value.type "tuple", data := Data.seq #[Value.str (Str.ofString "k") 190] }) ::
    (nat_lit 18, { cls := Value.type "tuple", data := Data.seq #[] }) ::
    (nat_lit 20, { cls := Value.type "code", data := Data.fields #[Value.str (Str.ofString "_wall") 187, Value.str (Str.ofString "_wall") 188, Value.str (Str.ofString "/claim/cut.py") 189, Value.int 1 0, Value.int 1 0, Value.int 0 0, Value.int 0 0, Value.int 3 0, Value.ref 15, Value.bool true, Value.int 181 0, Value.ref 16, Value.none, Value.ref 17, Value.ref 18, Value.ref 19, Value.int 191 0, Value.int 1 0, Value.str (Str.ofString "/claim/cut.py") 192] }) ::
    (nat_lit 21, { cls := Value.type "function", data := Data.func { name := Str.ofString "_wall", qualname := Str.ofString "_wall", params := P_0, body := FuncBody.stmts B_0, scope := S_0, globals := 3, closure := [], defaults := Value.none, kwdefaults := Value.none, pyModule := Value.str (Str.ofString "__main__") 164, code := Value.ref 20 } }) ::
    (nat_lit 29, { cls := Value.type "tuple", data := Data.seq #[] }) ::
    (nat_lit 31, { cls := Value.type "tuple", data := Data.seq #[Value.str (Str.ofString "self") 211, Value.str (Str.ofString "q") 212, Value.str (Str.ofString "n") 213] }) ::
    (nat_lit 32, { cls := Value.type "tuple", data := Data.seq #[] }) ::
    (nat_lit 34, { cls := Value.type "code", data := Data.fields #[Value.str (Str.ofString "__init__") 208, Value.str (Str.ofString "GenericPolynomialRing.__init__") 209, Value.str (Str.ofString "/claim/cut.py") 210, Value.int 7 0, Value.int 3 0, Value.int 0 0, Value.int 0 0, Value.int 3 0, Value.ref 29, Value.bool true, Value.int 181 0, Value.ref 30, Value.none, Value.ref 31, Value.ref 32, Value.ref 33, Value.int 214 0, Value.int 7 0, Value.str (Str.ofString "/claim/cut.py") 215] }) ::
    (nat_lit 35, { cls := Value.type "function", data := Data.func { name := Str.ofString "__init__", qualname := Str.ofString "GenericPolynomialRing.__init__", params := P_2_0, body := FuncBody.stmts B_2_0, scope := S_2_0, globals := 3, closure := [], defaults := Value.none, kwdefaults := Value.none, pyModule := Value.str (Str.ofString "kyber_py.polynomials.polynomials_generic") 194, code := Value.ref 34 } }) ::
    (nat_lit 36, { cls := Value.type "tuple", data := Data.seq #[] }) ::
    (nat_lit 38, { cls := Value.type "tuple", data := Data.seq #[Value.str (Str.ofString "self") 220] }) ::
    (nat_lit 39, { cls := Value.type "tuple", data := Data.seq #[] }) ::
    (nat_lit 41, { cls := Value.type "code", data := Data.fields #[Value.str (Str.ofString "zero") 217, Value.str (Str.ofString "GenericPolynomialRing.zero") 218, Value.str (Str.ofString "/claim/cut.py") 219, Value.int 11 0, Value.int 1 0, Value.int 0 0, Value.int 0 0, Value.int 3 0, Value.ref 36, Value.bool true, Value.int 181 0, Value.ref 37, Value.none, Value.ref 38, Value.ref 39, Value.ref 40, Value.int 221 0, Value.int 11 0, Value.str (Str.ofString "/claim/cut.py") 222] }) ::
    (nat_lit 42, { cls := Value.type "function", data := Data.func { name := Str.ofString "zero", qualname := Str.ofString "GenericPolynomialRing.zero", params := P_2_1, body := FuncBody.stmts B_2_1, scope := S_2_1, globals := 3, closure := [], defaults := Value.none, kwdefaults := Value.none, pyModule := Value.str (Str.ofString "kyber_py.polynomials.polynomials_generic") 194, code := Value.ref 41 } }) ::
    (nat_lit 43, { cls := Value.type "tuple", data := Data.seq #[] }) ::
    (nat_lit 45, { cls := Value.type "tuple", data := Data.seq #[Value.str (Str.ofString "self") 227] }) ::
    (nat_lit 46, { cls := Value.type "tuple", data := Data.seq #[] }) ::
    (nat_lit 48, { cls := Value.type "code", data := Data.fields #[Value.str (Str.ofString "gen") 224, Value.str (Str.ofString "GenericPolynomialRing.gen") 225, Value.str (Str.ofString "/claim/cut.py") 226, Value.int 14 0, Value.int 1 0, Value.int 0 0, Value.int 0 0, Value.int 3 0, Value.ref 43, Value.bool true, Value.int 181 0, Value.ref 44, Value.none, Value.ref 45, Value.ref 46, Value.ref 47, Value.int 228 0, Value.int 14 0, Value.str (Str.ofString "/claim/cut.py") 229] }) ::
    (nat_lit 49, { cls := Value.type "function", data := Data.func { name := Str.ofString "gen", qualname := Str.ofString "GenericPolynomialRing.gen", params := P_2_2, body := FuncBody.stmts B_2_2, scope := S_2_2, globals := 3, closure := [], defaults := Value.none, kwdefaults := Value.none, pyModule := Value.str (Str.ofString "kyber_py.polynomials.polynomials_generic") 194, code := Value.ref 48 } }) ::
    (nat_lit 50, { cls := Value.type "tuple", data := Data.seq #[] }) ::
    (nat_lit 52, { cls := Value.type "tuple", data := Data.seq #[Value.str (Str.ofString "self") 234, Value.str (Str.ofString "coefficients") 235] }) ::
    (nat_lit 53, { cls := Value.type "tuple", data := Data.seq #[] }) ::
    (nat_lit 55, { cls := Value.type "code", data := Data.fields #[Value.str (Str.ofString "__call__") 231, Value.str (Str.ofString "GenericPolynomialRing.__call__") 232, Value.str (Str.ofString "/claim/cut.py") 233, Value.int 17 0, Value.int 2 0, Value.int 0 0, Value.int 0 0, Value.int 3 0, Value.ref 50, Value.bool true, Value.int 181 0, Value.ref 51, Value.none, Value.ref 52, Value.ref 53, Value.ref 54, Value.int 236 0, Value.int 17 0, Value.str (Str.ofString "/claim/cut.py") 237] }) ::
    (nat_lit 56, { cls := Value.type "function", data := Data.func { name := Str.ofString "__call__", qualname := Str.ofString "GenericPolynomialRing.__call__", params := P_2_3, body := FuncBody.stmts B_2_3, scope := S_2_3, globals := 3, closure := [], defaults := Value.none, kwdefaults := Value.none, pyModule := Value.str (Str.ofString "kyber_py.polynomials.polynomials_generic") 194, code := Value.ref 55 } }) ::
    (nat_lit 57, { cls := Value.type "tuple", data := Data.seq #[Value.str (Str.ofString "n") 239, Value.str (Str.ofString "q") 240] }) ::
    (nat_lit 58, { cls := Value.type "dict", data := Data.dict #[{ hash := PyData.keyHash P (Str.ofString "__module__"), key := Value.str (Str.ofString "__module__") 203, val := Value.str (Str.ofString "kyber_py.polynomials.polynomials_generic") 194 }, { hash := PyData.keyHash P (Str.ofString "__firstlineno__"), key := Value.str (Str.ofString "__firstlineno__") 207, val := Value.int 5 206 }, { hash := PyData.keyHash P (Str.ofString "__init__"), key := Value.str (Str.ofString "__init__") 216, val := Value.ref 35 }, { hash := PyData.keyHash P (Str.ofString "zero"), key := Value.str (Str.ofString "zero") 223, val := Value.ref 42 }, { hash := PyData.keyHash P (Str.ofString "gen"), key := Value.str (Str.ofString "gen") 230, val := Value.ref 49 }, { hash := PyData.keyHash P (Str.ofString "__call__"), key := Value.str (Str.ofString "__call__") 238, val := Value.ref 56 }, { hash := PyData.keyHash P (Str.ofString "__static_attributes__"), key := Value.str (Str.ofString "__static_attributes__") 241, val := Value.ref 57 }, { hash := PyData.keyHash P (Str.ofString "__dict__"), key := Value.str (Str.ofString "__dict__") 243, val := Value.ref 60 }, { hash := PyData.keyHash P (Str.ofString "__weakref__"), key := Value.str (Str.ofString "__weakref__") 245, val := Value.ref 61 }, { hash := PyData.keyHash P (Str.ofString "__doc__"), key := Value.str (Str.ofString "__doc__") 246, val := Value.none }] 4 }) ::
    (nat_lit 59, { cls := Value.type "type", data := Data.cls { name := Str.ofString "GenericPolynomialRing", bases := [Value.type "object"], mro := [Value.ref 59, Value.type "object"], ns := 58, qualname := Str.ofString "GenericPolynomialRing", subclasses := [Value.ref 282] }, slots := #[none, none, some (Value.str (Str.ofString "GenericPolynomialRing") 196), some (Value.str (Str.ofString "GenericPolynomialRing") 204), some (Value.builtin "object.__new__"), some (Value.bool true)] }) ::
    (nat_lit 60, { cls := Value.type "getset_descriptor", data := Data.fields #[Value.str (Str.ofString "__dict__") 242, Value.ref 59, Value.builtin "function.__dict__", Value.builtin "function.__dict__#set"] }) ::
    (nat_lit 61, { cls := Value.type "getset_descriptor", data := Data.fields #[Value.str (Str.ofString "__weakref__") 244, Value.ref 59, Value.builtin "ExceptionGroup.__weakref__", Value.none] }) ::
    (nat_lit 71, { cls := Value.type "tuple", data := Data.seq #[] }) ::
    (nat_lit 73, { cls := Value.type "tuple", data := Data.seq #[Value.str (Str.ofString "self") 264, Value.str (Str.ofString "parent") 265, Value.str (Str.ofString "coefficients") 266] }) ::
    (nat_lit 74, { cls := Value.type "tuple", data := Data.seq #[] }) ::
    (nat_lit 76, { cls := Value.type "code", data := Data.fields #[Value.str (Str.ofString "__init__") 261, Value.str (Str.ofString "GenericPolynomial.__init__") 262, Value.str (Str.ofString "/claim/cut.py") 263, Value.int 25 0, Value.int 3 0, Value.int 0 0, Value.int 0 0, Value.int 3 0, Value.ref 71, Value.bool true, Value.int 181 0, Value.ref 72, Value.none, Value.ref 73, Value.ref 74, Value.ref 75, Value.int 267 0, Value.int 25 0, Value.str (Str.ofString "/claim/cut.py") 268] }) ::
    (nat_lit 77, { cls := Value.type "function", data := Data.func { name := Str.ofString "__init__", qualname := Str.ofString "GenericPolynomial.__init__", params := P_3_0, body := FuncBody.stmts B_3_0, scope := S_3_0, globals := 3, closure := [], defaults := Value.none, kwdefaults := Value.none, pyModule := Value.str (Str.ofString "kyber_py.polynomials.polynomials_generic") 194, code := Value.ref 76 } }) ::
    (nat_lit 78, { cls := Value.type "tuple", data := Data.seq #[] }) ::
    (nat_lit 80, { cls := Value.type "tuple", data := Data.seq #[Value.str (Str.ofString "self") 273] }) ::
    (nat_lit 81, { cls := Value.type "tuple", data := Data.seq #[] }) ::
    (nat_lit 83, { cls := Value.type "code", data := Data.fields #[Value.str (Str.ofString "is_zero") 270, Value.str (Str.ofString "GenericPolynomial.is_zero") 271, Value.str (Str.ofString "/claim/cut.py") 272, Value.int 29 0, Value.int 1 0, Value.int 0 0, Value.int 0 0, Value.int 3 0, Value.ref 78, Value.bool true, Value.int 181 0, Value.ref 79, Value.none, Value.ref 80, Value.ref 81, Value.ref 82, Value.int 274 0, Value.int 29 0, Value.str (Str.ofString "/claim/cut.py") 275] }) ::
    (nat_lit 84, { cls := Value.type "function", data := Data.func { name := Str.ofString "is_zero", qualname := Str.ofString "GenericPolynomial.is_zero", params := P_3_1, body := FuncBody.stmts B_3_1, scope := S_3_1, globals := 3, closure := [], defaults := Value.none, kwdefaults := Value.none, pyModule := Value.str (Str.ofString "kyber_py.polynomials.polynomials_generic") 194, code := Value.ref 83 } }) ::
    (nat_lit 85, { cls := Value.type "tuple", data := Data.seq #[] }) ::
    (nat_lit 87, { cls := Value.type "tuple", data := Data.seq #[Value.str (Str.ofString "self") 280] }) ::
    (nat_lit 88, { cls := Value.type "tuple", data := Data.seq #[] }) ::
    (nat_lit 90, { cls := Value.type "code", data := Data.fields #[Value.str (Str.ofString "is_constant") 277, Value.str (Str.ofString "GenericPolynomial.is_constant") 278, Value.str (Str.ofString "/claim/cut.py") 279, Value.int 32 0, Value.int 1 0, Value.int 0 0, Value.int 0 0, Value.int 3 0, Value.ref 85, Value.bool true, Value.int 181 0, Value.ref 86, Value.none, Value.ref 87, Value.ref 88, Value.ref 89, Value.int 281 0, Value.int 32 0, Value.str (Str.ofString "/claim/cut.py") 282] }) ::
    (nat_lit 91, { cls := Value.type "function", data := Data.func { name := Str.ofString "is_constant", qualname := Str.ofString "GenericPolynomial.is_constant", params := P_3_2, body := FuncBody.stmts B_3_2, scope := S_3_2, globals := 3, closure := [], defaults := Value.none, kwdefaults := Value.none, pyModule := Value.str (Str.ofString "kyber_py.polynomials.polynomials_generic") 194, code := Value.ref 90 } }) ::
    (nat_lit 92, { cls := Value.type "tuple", data := Data.seq #[] }) ::
    (nat_lit 95, { cls := Value.type "code", data := Data.fields #[Value.str (Str.ofString "_parse_coefficients") 284, Value.str (Str.ofString "GenericPolynomial._parse_coefficients") 285, Value.str (Str.ofString "/claim/cut.py") 286, Value.int 35 0, Value.int 2 0, Value.int 0 0, Value.int 0 0, Value.int 3 0, Value.ref 92, Value.bool true, Value.int 181 0, Value.ref 93, Value.none, Value.none, Value.none, Value.ref 94, Value.int 287 0, Value.int 35 0, Value.str (Str.ofString "/claim/cut.py") 288] }) ::
    (nat_lit 96, { cls := Value.type "function", data := Data.func { name := Str.ofString "_parse_coefficients", qualname := Str.ofString "GenericPolynomial._parse_coefficients", params := P_3_3, body := FuncBody.stmts B_3_3, scope := S_3_3, globals := 3, closure := [], defaults := Value.none, kwdefaults := Value.none, pyModule := Value.str (Str.ofString "kyber_py.polynomials.polynomials_generic") 194, code := Value.ref 95 } }) ::
    (nat_lit 97, { cls := Value.type "tuple", data := Data.seq #[] }) ::
    (nat_lit 99, { cls := Value.type "tuple", data := Data.seq #[Value.str (Str.ofString "self") 293] }) ::
    (nat_lit 100, { cls := Value.type "tuple", data := Data.seq #[] }) ::
    (nat_lit 102, { cls := Value.type "code", data := Data.fields #[Value.str (Str.ofString "reduce_coefficients") 290, Value.str (Str.ofString "GenericPolynomial.reduce_coefficients") 291, Value.str (Str.ofString "/claim/cut.py") 292, Value.int 43 0, Value.int 1 0, Value.int 0 0, Value.int 0 0, Value.int 3 0, Value.ref 97, Value.bool true, Value.int 181 0, Value.ref 98, Value.none, Value.ref 99, Value.ref 100, Value.ref 101, Value.int 294 0, Value.int 43 0, Value.str (Str.ofString "/claim/cut.py") 295] }) ::
    (nat_lit 103, { cls := Value.type "function", data := Data.func { name := Str.ofString "reduce_coefficients", qualname := Str.ofString "GenericPolynomial.reduce_coefficients", params := P_3_4, body := FuncBody.stmts B_3_4, scope := S_3_4, globals := 3, closure := [], defaults := Value.none, kwdefaults := Value.none, pyModule := Value.str (Str.ofString "kyber_py.polynomials.polynomials_generic") 194, code := Value.ref 102 } }) ::
    (nat_lit 104, { cls := Value.type "tuple", data := Data.seq #[] }) ::
    (nat_lit 106, { cls := Value.type "tuple", data := Data.seq #[Value.str (Str.ofString "self") 300, Value.str (Str.ofString "x") 301, Value.str (Str.ofString "y") 302] }) ::
    (nat_lit 107, { cls := Value.type "tuple", data := Data.seq #[] }) ::
    (nat_lit 109, { cls := Value.type "code", data := Data.fields #[Value.str (Str.ofString "_add_mod_q") 297, Value.str (Str.ofString "GenericPolynomial._add_mod_q") 298, Value.str (Str.ofString "/claim/cut.py") 299, Value.int 46 0, Value.int 3 0, Value.int 0 0, Value.int 0 0, Value.int 3 0, Value.ref 104, Value.bool true, Value.int 181 0, Value.ref 105, Value.none, Value.ref 106, Value.ref 107, Value.ref 108, Value.int 303 0, Value.int 46 0, Value.str (Str.ofString "/claim/cut.py") 304] }) ::
    (nat_lit 110, { cls := Value.type "function", data := Data.func { name := Str.ofString "_add_mod_q", qualname := Str.ofString "GenericPolynomial._add_mod_q", params := P_3_5, body := FuncBody.stmts B_3_5, scope := S_3_5, globals := 3, closure := [], defaults := Value.none, kwdefaults := Value.none, pyModule := Value.str (Str.ofString "kyber_py.polynomials.polynomials_generic") 194, code := Value.ref 109 } }) ::
    (nat_lit 111, { cls := Value.type "tuple", data := Data.seq #[] }) ::
    (nat_lit 113, { cls := Value.type "tuple", data := Data.seq #[Value.str (Str.ofString "self") 309, Value.str (Str.ofString "x") 310, Value.str (Str.ofString "y") 311] }) ::
    (nat_lit 114, { cls := Value.type "tuple", data := Data.seq #[] }) ::
    (nat_lit 116, { cls := Value.type "code", data := Data.fields #[Value.str (Str.ofString "_sub_mod_q") 306, Value.str (Str.ofString "GenericPolynomial._sub_mod_q") 307, Value.str (Str.ofString "/claim/cut.py") 308, Value.int 49 0, Value.int 3 0, Value.int 0 0, Value.int 0 0, Value.int 3 0, Value.ref 111, Value.bool true, Value.int 181 0, Value.ref 112, Value.none, Value.ref 113, Value.ref 114, Value.ref 115, Value.int 312 0, Value.int 49 0, Value.str (Str.ofString "/claim/cut.py") 313] }) ::
    (nat_lit 117, { cls := Value.type "function", data := Data.func { name := Str.ofString "_sub_mod_q", qualname := Str.ofString "GenericPolynomial._sub_mod_q", params := P_3_6, body := FuncBody.stmts B_3_6, scope := S_3_6, globals := 3, closure := [], defaults := Value.none, kwdefaults := Value.none, pyModule := Value.str (Str.ofString "kyber_py.polynomials.polynomials_generic") 194, code := Value.ref 116 } }) ::
    (nat_lit 118, { cls := Value.type "tuple", data := Data.seq #[] }) ::
    (nat_lit 121, { cls := Value.type "code", data := Data.fields #[Value.str (Str.ofString "_schoolbook_multiplication") 315, Value.str (Str.ofString "GenericPolynomial._schoolbook_multiplication") 316, Value.str (Str.ofString "/claim/cut.py") 317, Value.int 52 0, Value.int 2 0, Value.int 0 0, Value.int 0 0, Value.int 3 0, Value.ref 118, Value.bool true, Value.int 181 0, Value.ref 119, Value.none, Value.none, Value.none, Value.ref 120, Value.int 318 0, Value.int 52 0, Value.str (Str.ofString "/claim/cut.py") 319] }) ::
    (nat_lit 122, { cls := Value.type "function", data := Data.func { name := Str.ofString "_schoolbook_multiplication", qualname := Str.ofString "GenericPolynomial._schoolbook_multiplication", params := P_3_7, body := FuncBody.stmts B_3_7, scope := S_3_7, globals := 3, closure := [], defaults := Value.none, kwdefaults := Value.none, pyModule := Value.str (Str.ofString "kyber_py.polynomials.polynomials_generic") 194, code := Value.ref 121 } }) ::
    (nat_lit 123, { cls := Value.type "tuple", data := Data.seq #[] }) ::
    (nat_lit 126, { cls := Value.type "code", data := Data.fields #[Value.str (Str.ofString "__neg__") 321, Value.str (Str.ofString "GenericPolynomial.__neg__") 322, Value.str (Str.ofString "/claim/cut.py") 323, Value.int 65 0, Value.int 1 0, Value.int 0 0, Value.int 0 0, Value.int 3 0, Value.ref 123, Value.bool true, Value.int 181 0, Value.ref 124, Value.none, Value.none, Value.none, Value.ref 125, Value.int 324 0, Value.int 65 0, Value.str (Str.ofString "/claim/cut.py") 325] }) ::
    (nat_lit 127, { cls := Value.type "function", data := Data.func { name := Str.ofString "__neg__", qualname := Str.ofString "GenericPolynomial.__neg__", params := P_3_8, body := FuncBody.stmts B_3_8, scope := S_3_8, globals := 3, closure := [], defaults := Value.none, kwdefaults := Value.none, pyModule := Value.str (Str.ofString "kyber_py.polynomials.polynomials_generic") 194, code := Value.ref 126 } }) ::
    (nat_lit 128, { cls := Value.type "tuple", data := Data.seq #[] }) ::
    (nat_lit 131, { cls := Value.type "code", data := Data.fields #[Value.str (Str.ofString "_add_") 327, Value.str (Str.ofString "GenericPolynomial._add_") 328, Value.str (Str.ofString "/claim/cut.py") 329, Value.int 69 0, Value.int 2 0, Value.int 0 0, Value.int 0 0, Value.int 3 0, Value.ref 128, Value.bool true, Value.int 181 0, Value.ref 129, Value.none, Value.none, Value.none, Value.ref 130, Value.int 330 0, Value.int 69 0, Value.str (Str.ofString "/claim/cut.py") 331] }) ::
    (nat_lit 132, { cls := Value.type "function", data := Data.func { name := Str.ofString "_add_", qualname := Str.ofString "GenericPolynomial._add_", params := P_3_9, body := FuncBody.stmts B_3_9, scope := S_3_9, globals := 3, closure := [], defaults := Value.none, kwdefaults := Value.none, pyModule := Value.str (Str.ofString "kyber_py.polynomials.polynomials_generic") 194, code := Value.ref 131 } }) ::
    (nat_lit 133, { cls := Value.type "tuple", data := Data.seq #[] }) ::
    (nat_lit 135, { cls := Value.type "tuple", data := Data.seq #[Value.str (Str.ofString "self") 336, Value.str (Str.ofString "other") 337, Value.str (Str.ofString "new_coeffs") 338] }) ::
    (nat_lit 136, { cls := Value.type "tuple", data := Data.seq #[] }) ::
    (nat_lit 138, { cls := Value.type "code", data := Data.fields #[Value.str (Str.ofString "__add__") 333, Value.str (Str.ofString "GenericPolynomial.__add__") 334, Value.str (Str.ofString "/claim/cut.py") 335, Value.int 79 0, Value.int 2 0, Value.int 0 0, Value.int 0 0, Value.int 3 0, Value.ref 133, Value.bool true, Value.int 181 0, Value.ref 134, Value.none, Value.ref 135, Value.ref 136, Value.ref 137, Value.int 339 0, Value.int 79 0, Value.str (Str.ofString "/claim/cut.py") 340] }) ::
    (nat_lit 139, { cls := Value.type "function", data := Data.func { name := Str.ofString "__add__", qualname := Str.ofString "GenericPolynomial.__add__", params := P_3_10, body := FuncBody.stmts B_3_10, scope := S_3_10, globals := 3, closure := [], defaults := Value.none, kwdefaults := Value.none, pyModule := Value.str (Str.ofString "kyber_py.polynomials.polynomials_generic") 194, code := Value.ref 138 } }) ::
    (nat_lit 140, { cls := Value.type "tuple", data := Data.seq #[] }) ::
    (nat_lit 142, { cls := Value.type "tuple", data := Data.seq #[Value.str (Str.ofString "self") 345, Value.str (Str.ofString "other") 346] }) ::
    (nat_lit 143, { cls := Value.type "tuple", data := Data.seq #[] }) ::
    (nat_lit 145, { cls := Value.type "code", data := Data.fields #[Value.str (Str.ofString "__radd__") 342, Value.str (Str.ofString "GenericPolynomial.__radd__") 343, Value.str (Str.ofString "/claim/cut.py") 344, Value.int 83 0, Value.int 2 0, Value.int 0 0, Value.int 0 0, Value.int 3 0, Value.ref 140, Value.bool true, Value.int 181 0, Value.ref 141, Value.none, Value.ref 142, Value.ref 143, Value.ref 144, Value.int 347 0, Value.int 83 0, Value.str (Str.ofString "/claim/cut.py") 348] }) ::
    (nat_lit 146, { cls := Value.type "function", data := Data.func { name := Str.ofString "__radd__", qualname := Str.ofString "GenericPolynomial.__radd__", params := P_3_11, body := FuncBody.stmts B_3_11, scope := S_3_11, globals := 3, closure := [], defaults := Value.none, kwdefaults := Value.none, pyModule := Value.str (Str.ofString "kyber_py.polynomials.polynomials_generic") 194, code := Value.ref 145 } }) ::
    (nat_lit 147, { cls := Value.type "tuple", data := Data.seq #[] }) ::
    (nat_lit 149, { cls := Value.type "tuple", data := Data.seq #[Value.str (Str.ofString "self") 353, Value.str (Str.ofString "other") 354] }) ::
    (nat_lit 150, { cls := Value.type "tuple", data := Data.seq #[] }) ::
    (nat_lit 152, { cls := Value.type "code", data := Data.fields #[Value.str (Str.ofString "__iadd__") 350, Value.str (Str.ofString "GenericPolynomial.__iadd__") 351, Value.str (Str.ofString "/claim/cut.py") 352, Value.int 86 0, Value.int 2 0, Value.int 0 0, Value.int 0 0, Value.int 3 0, Value.ref 147, Value.bool true, Value.int 181 0, Value.ref 148, Value.none, Value.ref 149, Value.ref 150, Value.ref 151, Value.int 355 0, Value.int 86 0, Value.str (Str.ofString "/claim/cut.py") 356] }) ::
    (nat_lit 153, { cls := Value.type "function", data := Data.func { name := Str.ofString "__iadd__", qualname := Str.ofString "GenericPolynomial.__iadd__", params := P_3_12, body := FuncBody.stmts B_3_12, scope := S_3_12, globals := 3, closure := [], defaults := Value.none, kwdefaults := Value.none, pyModule := Value.str (Str.ofString "kyber_py.polynomials.polynomials_generic") 194, code := Value.ref 152 } }) ::
    (nat_lit 154, { cls := Value.type "tuple", data := Data.seq #[] }) ::
    (nat_lit 157, { cls := Value.type "code", data := Data.fields #[Value.str (Str.ofString "_sub_") 358, Value.str (Str.ofString "GenericPolynomial._sub_") 359, Value.str (Str.ofString "/claim/cut.py") 360, Value.int 90 0, Value.int 2 0, Value.int 0 0, Value.int 0 0, Value.int 3 0, Value.ref 154, Value.bool true, Value.int 181 0, Value.ref 155, Value.none, Value.none, Value.none, Value.ref 156, Value.int 361 0, Value.int 90 0, Value.str (Str.ofString "/claim/cut.py") 362] }) ::
    (nat_lit 158, { cls := Value.type "function", data := Data.func { name := Str.ofString "_sub_", qualname := Str.ofString "GenericPolynomial._sub_", params := P_3_13, body := FuncBody.stmts B_3_13, scope := S_3_13, globals := 3, closure := [], defaults := Value.none, kwdefaults := Value.none, pyModule := Value.str (Str.ofString "kyber_py.polynomials.polynomials_generic") 194, code := Value.ref 157 } }) ::
    (nat_lit 159, { cls := Value.type "tuple", data := Data.seq #[] }) ::
    (nat_lit 161, { cls := Value.type "tuple", data := Data.seq #[Value.str (Str.ofString "self") 367, Value.str (Str.ofString "other") 368, Value.str (Str.ofString "new_coeffs") 369] }) ::
    (nat_lit 162, { cls := Value.type "tuple", data := Data.seq #[] }) ::
    (nat_lit 164, { cls := Value.type "code", data := Data.fields #[Value.str (Str.ofString "__sub__") 364, Value.str (Str.ofString "GenericPolynomial.__sub__") 365, Value.str (Str.ofString "/claim/cut.py") 366, Value.int 100 0, Value.int 2 0, Value.int 0 0, Value.int 0 0, Value.int 3 0, Value.ref 159, Value.bool true, Value.int 181 0, Value.ref 160, Value.none, Value.ref 161, Value.ref 162, Value.ref 163, Value.int 370 0, Value.int 100 0, Value.str (Str.ofString "/claim/cut.py") 371] }) ::
    (nat_lit 165, { cls := Value.type "function", data := Data.func { name := Str.ofString "__sub__", qualname := Str.ofString "GenericPolynomial.__sub__", params := P_3_14, body := FuncBody.stmts B_3_14, scope := S_3_14, globals := 3, closure := [], defaults := Value.none, kwdefaults := Value.none, pyModule := Value.str (Str.ofString "kyber_py.polynomials.polynomials_generic") 194, code := Value.ref 164 } }) ::
    (nat_lit 166, { cls := Value.type "tuple", data := Data.seq #[] }) ::
    (nat_lit 168, { cls := Value.type "tuple", data := Data.seq #[Value.str (Str.ofString "self") 376, Value.str (Str.ofString "other") 377] }) ::
    (nat_lit 169, { cls := Value.type "tuple", data := Data.seq #[] }) ::
    (nat_lit 171, { cls := Value.type "code", data := Data.fields #[Value.str (Str.ofString "__rsub__") 373, Value.str (Str.ofString "GenericPolynomial.__rsub__") 374, Value.str (Str.ofString "/claim/cut.py") 375, Value.int 104 0, Value.int 2 0, Value.int 0 0, Value.int 0 0, Value.int 3 0, Value.ref 166, Value.bool true, Value.int 181 0, Value.ref 167, Value.none, Value.ref 168, Value.ref 169, Value.ref 170, Value.int 378 0, Value.int 104 0, Value.str (Str.ofString "/claim/cut.py") 379] }) ::
    (nat_lit 172, { cls := Value.type "function", data := Data.func { name := Str.ofString "__rsub__", qualname := Str.ofString "GenericPolynomial.__rsub__", params := P_3_15, body := FuncBody.stmts B_3_15, scope := S_3_15, globals := 3, closure := [], defaults := Value.none, kwdefaults := Value.none, pyModule := Value.str (Str.ofString "kyber_py.polynomials.polynomials_generic") 194, code := Value.ref 171 } }) ::
    (nat_lit 173, { cls := Value.type "tuple", data := Data.seq #[] }) ::
    (nat_lit 175, { cls := Value.type "tuple", data := Data.seq #[Value.str (Str.ofString "self") 384, Value.str (Str.ofString "other") 385] }) ::
    (nat_lit 176, { cls := Value.type "tuple", data := Data.seq #[] }) ::
    (nat_lit 178, { cls := Value.type "code", data := Data.fields #[Value.str (Str.ofString "__isub__") 381, Value.str (Str.ofString "GenericPolynomial.__isub__") 382, Value.str (Str.ofString "/claim/cut.py") 383, Value.int 107 0, Value.int 2 0, Value.int 0 0, Value.int 0 0, Value.int 3 0, Value.ref 173, Value.bool true, Value.int 181 0, Value.ref 174, Value.none, Value.ref 175, Value.ref 176, Value.ref 177, Value.int 386 0, Value.int 107 0, Value.str (Str.ofString "/claim/cut.py") 387] }) ::
    (nat_lit 179, { cls := Value.type "function", data := Data.func { name := Str.ofString "__isub__", qualname := Str.ofString "GenericPolynomial.__isub__", params := P_3_16, body := FuncBody.stmts B_3_16, scope := S_3_16, globals := 3, closure := [], defaults := Value.none, kwdefaults := Value.none, pyModule := Value.str (Str.ofString "kyber_py.polynomials.polynomials_generic") 194, code := Value.ref 178 } }) ::
    (nat_lit 180, { cls := Value.type "tuple", data := Data.seq #[] }) ::
    (nat_lit 183, { cls := Value.type "code", data := Data.fields #[Value.str (Str.ofString "__mul__") 389, Value.str (Str.ofString "GenericPolynomial.__mul__") 390, Value.str (Str.ofString "/claim/cut.py") 391, Value.int 111 0, Value.int 2 0, Value.int 0 0, Value.int 0 0, Value.int 3 0, Value.ref 180, Value.bool true, Value.int 181 0, Value.ref 181, Value.none, Value.none, Value.none, Value.ref 182, Value.int 392 0, Value.int 111 0, Value.str (Str.ofString "/claim/cut.py") 393] }) ::
    (nat_lit 184, { cls := Value.type "function", data := Data.func { name := Str.ofString "__mul__", qualname := Str.ofString "GenericPolynomial.__mul__", params := P_3_17, body := FuncBody.stmts B_3_17, scope := S_3_17, globals := 3, closure := [], defaults := Value.none, kwdefaults := Value.none, pyModule := Value.str (Str.ofString "kyber_py.polynomials.polynomials_generic") 194, code := Value.ref 183 } }) ::
    (nat_lit 185, { cls := Value.type "tuple", data := Data.seq #[] }) ::
    (nat_lit 187, { cls := Value.type "tuple", data := Data.seq #[Value.str (Str.ofString "self") 398, Value.str (Str.ofString "other") 399] }) ::
    (nat_lit 188, { cls := Value.type "tuple", data := Data.seq #[] }) ::
    (nat_lit 190, { cls := Value.type "code", data := Data.fields #[Value.str (Str.ofString "__rmul__") 395, Value.str (Str.ofString "GenericPolynomial.__rmul__") 396, Value.str (Str.ofString "/claim/cut.py") 397, Value.int 120 0, Value.int 2 0, Value.int 0 0, Value.int 0 0, Value.int 3 0, Value.ref 185, Value.bool true, Value.int 181 0, Value.ref 186, Value.none, Value.ref 187, Value.ref 188, Value.ref 189, Value.int 400 0, Value.int 120 0, Value.str (Str.ofString "/claim/cut.py") 401] }) ::
    (nat_lit 191, { cls := Value.type "function", data := Data.func { name := Str.ofString "__rmul__", qualname := Str.ofString "GenericPolynomial.__rmul__", params := P_3_18, body := FuncBody.stmts B_3_18, scope := S_3_18, globals := 3, closure := [], defaults := Value.none, kwdefaults := Value.none, pyModule := Value.str (Str.ofString "kyber_py.polynomials.polynomials_generic") 194, code := Value.ref 190 } }) ::
    (nat_lit 192, { cls := Value.type "tuple", data := Data.seq #[] }) ::
    (nat_lit 194, { cls := Value.type "tuple", data := Data.seq #[Value.str (Str.ofString "self") 406, Value.str (Str.ofString "other") 407] }) ::
    (nat_lit 195, { cls := Value.type "tuple", data := Data.seq #[] }) ::
    (nat_lit 197, { cls := Value.type "code", data := Data.fields #[Value.str (Str.ofString "__imul__") 403, Value.str (Str.ofString "GenericPolynomial.__imul__") 404, Value.str (Str.ofString "/claim/cut.py") 405, Value.int 123 0, Value.int 2 0, Value.int 0 0, Value.int 0 0, Value.int 3 0, Value.ref 192, Value.bool true, Value.int 181 0, Value.ref 193, Value.none, Value.ref 194, Value.ref 195, Value.ref 196, Value.int 408 0, Value.int 123 0, Value.str (Str.ofString "/claim/cut.py") 409] }) ::
    (nat_lit 198, { cls := Value.type "function", data := Data.func { name := Str.ofString "__imul__", qualname := Str.ofString "GenericPolynomial.__imul__", params := P_3_19, body := FuncBody.stmts B_3_19, scope := S_3_19, globals := 3, closure := [], defaults := Value.none, kwdefaults := Value.none, pyModule := Value.str (Str.ofString "kyber_py.polynomials.polynomials_generic") 194, code := Value.ref 197 } }) ::
    (nat_lit 199, { cls := Value.type "tuple", data := Data.seq #[] }) ::
    (nat_lit 201, { cls := Value.type "tuple", data := Data.seq #[Value.str (Str.ofString "self") 414, Value.str (Str.ofString "n") 415, Value.str (Str.ofString "f") 416, Value.str (Str.ofString "g") 417] }) ::
    (nat_lit 202, { cls := Value.type "tuple", data := Data.seq #[] }) ::
    (nat_lit 204, { cls := Value.type "code", data := Data.fields #[Value.str (Str.ofString "__pow__") 411, Value.str (Str.ofString "GenericPolynomial.__pow__") 412, Value.str (Str.ofString "/claim/cut.py") 413, Value.int 127 0, Value.int 2 0, Value.int 0 0, Value.int 0 0, Value.int 3 0, Value.ref 199, Value.bool true, Value.int 181 0, Value.ref 200, Value.none, Value.ref 201, Value.ref 202, Value.ref 203, Value.int 418 0, Value.int 127 0, Value.str (Str.ofString "/claim/cut.py") 419] }) ::
    (nat_lit 205, { cls := Value.type "function", data := Data.func { name := Str.ofString "__pow__", qualname := Str.ofString "GenericPolynomial.__pow__", params := P_3_20, body := FuncBody.stmts B_3_20, scope := S_3_20, globals := 3, closure := [], defaults := Value.none, kwdefaults := Value.none, pyModule := Value.str (Str.ofString "kyber_py.polynomials.polynomials_generic") 194, code := Value.ref 204 } }) ::
    (nat_lit 206, { cls := Value.type "tuple", data := Data.seq #[] }) ::
    (nat_lit 208, { cls := Value.type "tuple", data := Data.seq #[Value.str (Str.ofString "self") 424, Value.str (Str.ofString "other") 425] }) ::
    (nat_lit 209, { cls := Value.type "tuple", data := Data.seq #[] }) ::
    (nat_lit 211, { cls := Value.type "code", data := Data.fields #[Value.str (Str.ofString "__eq__") 421, Value.str (Str.ofString "GenericPolynomial.__eq__") 422, Value.str (Str.ofString "/claim/cut.py") 423, Value.int 141 0, Value.int 2 0, Value.int 0 0, Value.int 0 0, Value.int 3 0, Value.ref 206, Value.bool true, Value.int 181 0, Value.ref 207, Value.none, Value.ref 208, Value.ref 209, Value.ref 210, Value.int 426 0, Value.int 141 0, Value.str (Str.ofString "/claim/cut.py") 427] }) ::
    (nat_lit 212, { cls := Value.type "function", data := Data.func { name := Str.ofString "__eq__", qualname := Str.ofString "GenericPolynomial.__eq__", params := P_3_21, body := FuncBody.stmts B_3_21, scope := S_3_21, globals := 3, closure := [], defaults := Value.none, kwdefaults := Value.none, pyModule := Value.str (Str.ofString "kyber_py.polynomials.polynomials_generic") 194, code := Value.ref 211 } }) ::
    (nat_lit 213, { cls := Value.type "tuple", data := Data.seq #[] }) ::
    (nat_lit 215, { cls := Value.type "tuple", data := Data.seq #[Value.str (Str.ofString "self") 432, Value.str (Str.ofString "idx") 433] }) ::
    (nat_lit 216, { cls := Value.type "tuple", data := Data.seq #[] }) ::
    (nat_lit 218, { cls := Value.type "code", data := Data.fields #[Value.str (Str.ofString "__getitem__") 429, Value.str (Str.ofString "GenericPolynomial.__getitem__") 430, Value.str (Str.ofString "/claim/cut.py") 431, Value.int 149 0, Value.int 2 0, Value.int 0 0, Value.int 0 0, Value.int 3 0, Value.ref 213, Value.bool true, Value.int 181 0, Value.ref 214, Value.none, Value.ref 215, Value.ref 216, Value.ref 217, Value.int 434 0, Value.int 149 0, Value.str (Str.ofString "/claim/cut.py") 435] }) ::
    (nat_lit 219, { cls := Value.type "function", data := Data.func { name := Str.ofString "__getitem__", qualname := Str.ofString "GenericPolynomial.__getitem__", params := P_3_22, body := FuncBody.stmts B_3_22, scope := S_3_22, globals := 3, closure := [], defaults := Value.none, kwdefaults := Value.none, pyModule := Value.str (Str.ofString "kyber_py.polynomials.polynomials_generic") 194, code := Value.ref 218 } }) ::
    (nat_lit 220, { cls := Value.type "tuple", data := Data.seq #[Value.str (Str.ofString "coeffs") 437, Value.str (Str.ofString "parent") 438] }) ::
    (nat_lit 221, { cls := Value.type "dict", data := Data.dict #[{ hash := PyData.keyHash P (Str.ofString "__module__"), key := Value.str (Str.ofString "__module__") 256, val := Value.str (Str.ofString "kyber_py.polynomials.polynomials_generic") 194 }, { hash := PyData.keyHash P (Str.ofString "__firstlineno__"), key := Value.str (Str.ofString "__firstlineno__") 260, val := Value.int 23 259 }, { hash := PyData.keyHash P (Str.ofString "__init__"), key := Value.str (Str.ofString "__init__") 269, val := Value.ref 77 }, { hash := PyData.keyHash P (Str.ofString "is_zero"), key := Value.str (Str.ofString "is_zero") 276, val := Value.ref 84 }, { hash := PyData.keyHash P (Str.ofString "is_constant"), key := Value.str (Str.ofString "is_constant") 283, val := Value.ref 91 }, { hash := PyData.keyHash P (Str.ofString "_parse_coefficients"), key := Value.str (Str.ofString "_parse_coefficients") 289, val := Value.ref 96 }, { hash := PyData.keyHash P (Str.ofString "reduce_coefficients"), key := Value.str (Str.ofString "reduce_coefficients") 296, val := Value.ref 103 }, { hash := PyData.keyHash P (Str.ofString "_add_mod_q"), key := Value.str (Str.ofString "_add_mod_q") 305, val := Value.ref 110 }, { hash := PyData.keyHash P (Str.ofString "_sub_mod_q"), key := Value.str (Str.ofString "_sub_mod_q") 314, val := Value.ref 117 }, { hash := PyData.keyHash P (Str.ofString "_schoolbook_multiplication"), key := Value.str (Str.ofString "_schoolbook_multiplication") 320, val := Value.ref 122 }, { hash := PyData.keyHash P (Str.ofString "__neg__"), key := Value.str (Str.ofString "__neg__") 326, val := Value.ref 127 }, { hash := PyData.keyHash P (Str.ofString "_add_"), key := Value.str (Str.ofString "_add_") 332, val := Value.ref 132 }, { hash := PyData.keyHash P (Str.ofString "__add__"), key := Value.str (Str.ofString "__add__") 341, val := Value.ref 139 }, { hash := PyData.keyHash P (Str.ofString "__radd__"), key := Value.str (Str.ofString "__radd__") 349, val := Value.ref 146 }, { hash := PyData.keyHash P (Str.ofString "__iadd__"), key := Value.str (Str.ofString "__iadd__") 357, val := Value.ref 153 }, { hash := PyData.keyHash P (Str.ofString "_sub_"), key := Value.str (Str.ofString "_sub_") 363, val := Value.ref 158 }, { hash := PyData.keyHash P (Str.ofString "__sub__"), key := Value.str (Str.ofString "__sub__") 372, val := Value.ref 165 }, { hash := PyData.keyHash P (Str.ofString "__rsub__"), key := Value.str (Str.ofString "__rsub__") 380, val := Value.ref 172 }, { hash := PyData.keyHash P (Str.ofString "__isub__"), key := Value.str (Str.ofString "__isub__") 388, val := Value.ref 179 }, { hash := PyData.keyHash P (Str.ofString "__mul__"), key := Value.str (Str.ofString "__mul__") 394, val := Value.ref 184 }, { hash := PyData.keyHash P (Str.ofString "__rmul__"), key := Value.str (Str.ofString "__rmul__") 402, val := Value.ref 191 }, { hash := PyData.keyHash P (Str.ofString "__imul__"), key := Value.str (Str.ofString "__imul__") 410, val := Value.ref 198 }, { hash := PyData.keyHash P (Str.ofString "__pow__"), key := Value.str (Str.ofString "__pow__") 420, val := Value.ref 205 }, { hash := PyData.keyHash P (Str.ofString "__eq__"), key := Value.str (Str.ofString "__eq__") 428, val := Value.ref 212 }, { hash := PyData.keyHash P (Str.ofString "__getitem__"), key := Value.str (Str.ofString "__getitem__") 436, val := Value.ref 219 }, { hash := PyData.keyHash P (Str.ofString "__static_attributes__"), key := Value.str (Str.ofString "__static_attributes__") 439, val := Value.ref 220 }, { hash := PyData.keyHash P (Str.ofString "__dict__"), key := Value.str (Str.ofString "__dict__") 441, val := Value.ref 223 }, { hash := PyData.keyHash P (Str.ofString "__weakref__"), key := Value.str (Str.ofString "__weakref__") 443, val := Value.ref 224 }, { hash := PyData.keyHash P (Str.ofString "__doc__"), key := Value.str (Str.ofString "__doc__") 444, val := Value.none }, { hash := PyData.keyHash P (Str.ofString "__hash__"), key := Value.str (Str.ofString "__hash__") 445, val := Value.none }] 5 }) ::
    (nat_lit 222, { cls := Value.type "type", data := Data.cls { name := Str.ofString "GenericPolynomial", bases := [Value.type "object"], mro := [Value.ref 222, Value.type "object"], ns := 221, qualname := Str.ofString "GenericPolynomial", subclasses := [Value.ref 350] }, slots := #[none, none, some (Value.str (Str.ofString "GenericPolynomial") 249), some (Value.str (Str.ofString "GenericPolynomial") 257), some (Value.builtin "object.__new__"), some (Value.bool true)] }) ::
    (nat_lit 223, { cls := Value.type "getset_descriptor", data := Data.fields #[Value.str (Str.ofString "__dict__") 440, Value.ref 222, Value.builtin "function.__dict__", Value.builtin "function.__dict__#set"] }) ::
    (nat_lit 224, { cls := Value.type "getset_descriptor", data := Data.fields #[Value.str (Str.ofString "__weakref__") 442, Value.ref 222, Value.builtin "ExceptionGroup.__weakref__", Value.none] }) ::
    (nat_lit 227, { cls := Value.type "tuple", data := Data.seq #[Value.ref 59] }) ::
    (nat_lit 234, { cls := Value.type "tuple", data := Data.seq #[] }) ::
    (nat_lit 237, { cls := Value.type "code", data := Data.fields #[Value.str (Str.ofString "__init__") 462, Value.str (Str.ofString "PolynomialRing.__init__") 463, Value.str (Str.ofString "/claim/cut.py") 464, Value.int 154 0, Value.int 1 0, Value.int 0 0, Value.int 0 0, Value.int 3 0, Value.ref 234, Value.bool true, Value.int 181 0, Value.ref 235, Value.none, Value.none, Value.none, Value.ref 236, Value.int 465 0, Value.int 154 0, Value.str (Str.ofString "/claim/cut.py") 466] }) ::
    (nat_lit 238, { cls := Value.type "function", data := Data.func { name := Str.ofString "__init__", qualname := Str.ofString "PolynomialRing.__init__", params := P_5_0, body := FuncBody.stmts B_5_0, scope := S_5_0, globals := 3, closure := [], defaults := Value.none, kwdefaults := Value.none, pyModule := Value.str (Str.ofString "kyber_py.polynomials.polynomials") 448, code := Value.ref 237 } }) ::
    (nat_lit 239, { cls := Value.type "tuple", data := Data.seq #[] }) ::
    (nat_lit 241, { cls := Value.type "tuple", data := Data.seq #[Value.str (Str.ofString "i") 471, Value.str (Str.ofString "k") 472, Value.str (Str.ofString "bin_i") 473] }) ::
    (nat_lit 242, { cls := Value.type "tuple", data := Data.seq #[] }) ::
    (nat_lit 244, { cls := Value.type "code", data := Data.fields #[Value.str (Str.ofString "_br") 468, Value.str (Str.ofString "PolynomialRing._br") 469, Value.str (Str.ofString "/claim/cut.py") 470, Value.int 161 0, Value.int 2 0, Value.int 0 0, Value.int 0 0, Value.int 3 0, Value.ref 239, Value.bool true, Value.int 181 0, Value.ref 240, Value.none, Value.ref 241, Value.ref 242, Value.ref 243, Value.int 474 0, Value.int 161 0, Value.str (Str.ofString "/claim/cut.py") 475] }) ::
    (nat_lit 245, { cls := Value.type "function", data := Data.func { name := Str.ofString "_br", qualname := Str.ofString "PolynomialRing._br", params := P_5_1, body := FuncBody.stmts B_5_1, scope := S_5_1, globals := 3, closure := [], defaults := Value.none, kwdefaults := Value.none, pyModule := Value.str (Str.ofString "kyber_py.polynomials.polynomials") 448, annotations := some 248, code := Value.ref 244 } }) ::
    (nat_lit 246, { cls := Value.type "dict", data := Data.dict #[{ hash := PyData.keyHash P (Str.ofString "__module__"), key := Value.str (Str.ofString "__module__") 477, val := Value.str (Str.ofString "kyber_py.polynomials.polynomials") 448 }, { hash := PyData.keyHash P (Str.ofString "__name__"), key := Value.str (Str.ofString "__name__") 480, val := Value.str (Str.ofString "_br") 479 }, { hash := PyData.keyHash P (Str.ofString "__qualname__"), key := Value.str (Str.ofString "__qualname__") 483, val := Value.str (Str.ofString "PolynomialRing._br") 482 }, { hash := PyData.keyHash P (Str.ofString "__doc__"), key := Value.str (Str.ofString "__doc__") 485, val := Value.none }, { hash := PyData.keyHash P (Str.ofString "__annotations__"), key := Value.str (Str.ofString "__annotations__") 487, val := Value.ref 248 }] 5 }) ::
    (nat_lit 247, { cls := Value.type "staticmethod", dict := some 246, data := Data.fields #[Value.ref 245, Value.bool false] }) ::
    (nat_lit 248, { cls := Value.type "dict", data := Data.dict #[] }) ::
    (nat_lit 249, { cls := Value.type "tuple", data := Data.seq #[] }) ::
    (nat_lit 251, { cls := Value.type "tuple", data := Data.seq #[Value.str (Str.ofString "self") 492, Value.str (Str.ofString "input_bytes") 493] }) ::
    (nat_lit 252, { cls := Value.type "tuple", data := Data.seq #[] }) ::
    (nat_lit 254, { cls := Value.type "code", data := Data.fields #[Value.str (Str.ofString "ntt_sample") 489, Value.str (Str.ofString "PolynomialRing.ntt_sample") 490, Value.str (Str.ofString "/claim/cut.py") 491, Value.int 166 0, Value.int 2 0, Value.int 0 0, Value.int 0 0, Value.int 3 0, Value.ref 249, Value.bool true, Value.int 181 0, Value.ref 250, Value.none, Value.ref 251, Value.ref 252, Value.ref 253, Value.int 494 0, Value.int 166 0, Value.str (Str.ofString "/claim/cut.py") 495] }) ::
    (nat_lit 255, { cls := Value.type "function", data := Data.func { name := Str.ofString "ntt_sample", qualname := Str.ofString "PolynomialRing.ntt_sample", params := P_5_2, body := FuncBody.stmts B_5_2, scope := S_5_2, globals := 3, closure := [], defaults := Value.none, kwdefaults := Value.none, pyModule := Value.str (Str.ofString "kyber_py.polynomials.polynomials") 448, code := Value.ref 254 } }) ::
    (nat_lit 256, { cls := Value.type "tuple", data := Data.seq #[Value.bool false] }) ::
    (nat_lit 257, { cls := Value.type "tuple", data := Data.seq #[] }) ::
    (nat_lit 259, { cls := Value.type "tuple", data := Data.seq #[Value.str (Str.ofString "self") 500, Value.str (Str.ofString "input_bytes") 501, Value.str (Str.ofString "eta") 502, Value.str (Str.ofString "is_ntt") 503] }) ::
    (nat_lit 260, { cls := Value.type "tuple", data := Data.seq #[] }) ::
    (nat_lit 262, { cls := Value.type "code", data := Data.fields #[Value.str (Str.ofString "cbd") 497, Value.str (Str.ofString "PolynomialRing.cbd") 498, Value.str (Str.ofString "/claim/cut.py") 499, Value.int 169 0, Value.int 4 0, Value.int 0 0, Value.int 0 0, Value.int 3 0, Value.ref 257, Value.bool true, Value.int 181 0, Value.ref 258, Value.none, Value.ref 259, Value.ref 260, Value.ref 261, Value.int 504 0, Value.int 169 0, Value.str (Str.ofString "/claim/cut.py") 505] }) ::
    (nat_lit 263, { cls := Value.type "function", data := Data.func { name := Str.ofString "cbd", qualname := Str.ofString "PolynomialRing.cbd", params := P_5_3, body := FuncBody.stmts B_5_3, scope := S_5_3, globals := 3, closure := [], defaults := Value.ref 256, kwdefaults := Value.none, pyModule := Value.str (Str.ofString "kyber_py.polynomials.polynomials") 448, code := Value.ref 262 } }) ::
    (nat_lit 264, { cls := Value.type "tuple", data := Data.seq #[Value.bool false] }) ::
    (nat_lit 265, { cls := Value.type "tuple", data := Data.seq #[] }) ::
    (nat_lit 267, { cls := Value.type "tuple", data := Data.seq #[Value.str (Str.ofString "self") 510, Value.str (Str.ofString "input_bytes") 511, Value.str (Str.ofString "d") 512, Value.str (Str.ofString "is_ntt") 513] }) ::
    (nat_lit 268, { cls := Value.type "tuple", data := Data.seq #[] }) ::
    (nat_lit 270, { cls := Value.type "code", data := Data.fields #[Value.str (Str.ofString "decode") 507, Value.str (Str.ofString "PolynomialRing.decode") 508, Value.str (Str.ofString "/claim/cut.py") 509, Value.int 172 0, Value.int 4 0, Value.int 0 0, Value.int 0 0, Value.int 3 0, Value.ref 265, Value.bool true, Value.int 181 0, Value.ref 266, Value.none, Value.ref 267, Value.ref 268, Value.ref 269, Value.int 514 0, Value.int 172 0, Value.str (Str.ofString "/claim/cut.py") 515] }) ::
    (nat_lit 271, { cls := Value.type "function", data := Data.func { name := Str.ofString "decode", qualname := Str.ofString "PolynomialRing.decode", params := P_5_4, body := FuncBody.stmts B_5_4, scope := S_5_4, globals := 3, closure := [], defaults := Value.ref 264, kwdefaults := Value.none, pyModule := Value.str (Str.ofString "kyber_py.polynomials.polynomials") 448, code := Value.ref 270 } }) ::
    (nat_lit 272, { cls := Value.type "tuple", data := Data.seq #[Value.bool false] }) ::
    (nat_lit 273, { cls := Value.type "tuple", data := Data.seq #[] }) ::
    (nat_lit 275, { cls := Value.type "tuple", data := Data.seq #[Value.str (Str.ofString "self") 520, Value.str (Str.ofString "coefficients") 521, Value.str (Str.ofString "is_ntt") 522] }) ::
    (nat_lit 276, { cls := Value.type "tuple", data := Data.seq #[] }) ::
    (nat_lit 278, { cls := Value.type "code", data := Data.fields #[Value.str (Str.ofString "__call__") 517, Value.str (Str.ofString "PolynomialRing.__call__") 518, Value.str (Str.ofString "/claim/cut.py") 519, Value.int 175 0, Value.int 3 0, Value.int 0 0, Value.int 0 0, Value.int 3 0, Value.ref 273, Value.bool true, Value.int 181 0, Value.ref 274, Value.none, Value.ref 275, Value.ref 276, Value.ref 277, Value.int 523 0, Value.int 175 0, Value.str (Str.ofString "/claim/cut.py") 524] }) ::
    (nat_lit 279, { cls := Value.type "function", data := Data.func { name := Str.ofString "__call__", qualname := Str.ofString "PolynomialRing.__call__", params := P_5_5, body := FuncBody.stmts B_5_5, scope := S_5_5, globals := 3, closure := [], defaults := Value.ref 272, kwdefaults := Value.none, pyModule := Value.str (Str.ofString "kyber_py.polynomials.polynomials") 448, code := Value.ref 278 } }) ::
    (nat_lit 280, { cls := Value.type "tuple", data := Data.seq #[Value.str (Str.ofString "n") 526, Value.str (Str.ofString "ntt_f") 527, Value.str (Str.ofString "ntt_zetas") 528, Value.str (Str.ofString "q") 529] }) ::
    (nat_lit 281, { cls := Value.type "dict", data := Data.dict #[{ hash := PyData.keyHash P (Str.ofString "__module__"), key := Value.str (Str.ofString "__module__") 457, val := Value.str (Str.ofString "kyber_py.polynomials.polynomials") 448 }, { hash := PyData.keyHash P (Str.ofString "__firstlineno__"), key := Value.str (Str.ofString "__firstlineno__") 461, val := Value.int 152 460 }, { hash := PyData.keyHash P (Str.ofString "__init__"), key := Value.str (Str.ofString "__init__") 467, val := Value.ref 238 }, { hash := PyData.keyHash P (Str.ofString "_br"), key := Value.str (Str.ofString "_br") 488, val := Value.ref 247 }, { hash := PyData.keyHash P (Str.ofString "ntt_sample"), key := Value.str (Str.ofString "ntt_sample") 496, val := Value.ref 255 }, { hash := PyData.keyHash P (Str.ofString "cbd"), key := Value.str (Str.ofString "cbd") 506, val := Value.ref 263 }, { hash := PyData.keyHash P (Str.ofString "decode"), key := Value.str (Str.ofString "decode") 516, val := Value.ref 271 }, { hash := PyData.keyHash P (Str.ofString "__call__"), key := Value.str (Str.ofString "__call__") 525, val := Value.ref 279 }, { hash := PyData.keyHash P (Str.ofString "__static_attributes__"), key := Value.str (Str.ofString "__static_attributes__") 530, val := Value.ref 280 }, { hash := PyData.keyHash P (Str.ofString "__doc__"), key := Value.str (Str.ofString "__doc__") 531, val := Value.none }] 2 }) ::
    (nat_lit 282, { cls := Value.type "type", data := Data.cls { name := Str.ofString "PolynomialRing", bases := [Value.ref 59], mro := [Value.ref 282, Value.ref 59, Value.type "object"], ns := 281, qualname := Str.ofString "PolynomialRing" }, slots := #[some (Value.ref 227), none, some (Value.str (Str.ofString "PolynomialRing") 450), some (Value.str (Str.ofString "PolynomialRing") 458), some (Value.builtin "object.__new__"), some (Value.bool true)] }) ::
    (nat_lit 285, { cls := Value.type "tuple", data := Data.seq #[Value.ref 222] }) ::
    (nat_lit 292, { cls := Value.type "tuple", data := Data.seq #[] }) ::
    (nat_lit 294, { cls := Value.type "tuple", data := Data.seq #[Value.str (Str.ofString "self") 549, Value.str (Str.ofString "parent") 550, Value.str (Str.ofString "coefficients") 551] }) ::
    (nat_lit 295, { cls := Value.type "tuple", data := Data.seq #[] }) ::
    (nat_lit 297, { cls := Value.type "code", data := Data.fields #[Value.str (Str.ofString "__init__") 546, Value.str (Str.ofString "Polynomial.__init__") 547, Value.str (Str.ofString "/claim/cut.py") 548, Value.int 185 0, Value.int 3 0, Value.int 0 0, Value.int 0 0, Value.int 3 0, Value.ref 292, Value.bool true, Value.int 181 0, Value.ref 293, Value.none, Value.ref 294, Value.ref 295, Value.ref 296, Value.int 552 0, Value.int 185 0, Value.str (Str.ofString "/claim/cut.py") 553] }) ::
    (nat_lit 298, { cls := Value.type "function", data := Data.func { name := Str.ofString "__init__", qualname := Str.ofString "Polynomial.__init__", params := P_6_0, body := FuncBody.stmts B_6_0, scope := S_6_0, globals := 3, closure := [], defaults := Value.none, kwdefaults := Value.none, pyModule := Value.str (Str.ofString "kyber_py.polynomials.polynomials") 448, code := Value.ref 297 } }) ::
    (nat_lit 299, { cls := Value.type "tuple", data := Data.seq #[] }) ::
    (nat_lit 301, { cls := Value.type "tuple", data := Data.seq #[Value.str (Str.ofString "self") 558, Value.str (Str.ofString "d") 559] }) ::
    (nat_lit 302, { cls := Value.type "tuple", data := Data.seq #[] }) ::
    (nat_lit 304, { cls := Value.type "code", data := Data.fields #[Value.str (Str.ofString "encode") 555, Value.str (Str.ofString "Polynomial.encode") 556, Value.str (Str.ofString "/claim/cut.py") 557, Value.int 189 0, Value.int 2 0, Value.int 0 0, Value.int 0 0, Value.int 3 0, Value.ref 299, Value.bool true, Value.int 181 0, Value.ref 300, Value.none, Value.ref 301, Value.ref 302, Value.ref 303, Value.int 560 0, Value.int 189 0, Value.str (Str.ofString "/claim/cut.py") 561] }) ::
    (nat_lit 305, { cls := Value.type "function", data := Data.func { name := Str.ofString "encode", qualname := Str.ofString "Polynomial.encode", params := P_6_1, body := FuncBody.stmts B_6_1, scope := S_6_1, globals := 3, closure := [], defaults := Value.none, kwdefaults := Value.none, pyModule := Value.str (Str.ofString "kyber_py.polynomials.polynomials") 448, code := Value.ref 304 } }) ::
    (nat_lit 306, { cls := Value.type "tuple", data := Data.seq #[] }) ::
    (nat_lit 308, { cls := Value.type "tuple", data := Data.seq #[Value.str (Str.ofString "self") 566, Value.str (Str.ofString "x") 567, Value.str (Str.ofString "d") 568] }) ::
    (nat_lit 309, { cls := Value.type "tuple", data := Data.seq #[] }) ::
    (nat_lit 311, { cls := Value.type "code", data := Data.fields #[Value.str (Str.ofString "_compress_ele") 563, Value.str (Str.ofString "Polynomial._compress_ele") 564, Value.str (Str.ofString "/claim/cut.py") 565, Value.int 192 0, Value.int 3 0, Value.int 0 0, Value.int 0 0, Value.int 3 0, Value.ref 306, Value.bool true, Value.int 181 0, Value.ref 307, Value.none, Value.ref 308, Value.ref 309, Value.ref 310, Value.int 569 0, Value.int 192 0, Value.str (Str.ofString "/claim/cut.py") 570] }) ::
    (nat_lit 312, { cls := Value.type "function", data := Data.func { name := Str.ofString "_compress_ele", qualname := Str.ofString "Polynomial._compress_ele", params := P_6_2, body := FuncBody.stmts B_6_2, scope := S_6_2, globals := 3, closure := [], defaults := Value.none, kwdefaults := Value.none, pyModule := Value.str (Str.ofString "kyber_py.polynomials.polynomials") 448, code := Value.ref 311 } }) ::
    (nat_lit 313, { cls := Value.type "tuple", data := Data.seq #[] }) ::
    (nat_lit 315, { cls := Value.type "tuple", data := Data.seq #[Value.str (Str.ofString "self") 575, Value.str (Str.ofString "x") 576, Value.str (Str.ofString "d") 577] }) ::
    (nat_lit 316, { cls := Value.type "tuple", data := Data.seq #[] }) ::
    (nat_lit 318, { cls := Value.type "code", data := Data.fields #[Value.str (Str.ofString "_decompress_ele") 572, Value.str (Str.ofString "Polynomial._decompress_ele") 573, Value.str (Str.ofString "/claim/cut.py") 574, Value.int 195 0, Value.int 3 0, Value.int 0 0, Value.int 0 0, Value.int 3 0, Value.ref 313, Value.bool true, Value.int 181 0, Value.ref 314, Value.none, Value.ref 315, Value.ref 316, Value.ref 317, Value.int 578 0, Value.int 195 0, Value.str (Str.ofString "/claim/cut.py") 579] }) ::
    (nat_lit 319, { cls := Value.type "function", data := Data.func { name := Str.ofString "_decompress_ele", qualname := Str.ofString "Polynomial._decompress_ele", params := P_6_3, body := FuncBody.stmts B_6_3, scope := S_6_3, globals := 3, closure := [], defaults := Value.none, kwdefaults := Value.none, pyModule := Value.str (Str.ofString "kyber_py.polynomials.polynomials") 448, code := Value.ref 318 } }) ::
    (nat_lit 320, { cls := Value.type "tuple", data := Data.seq #[] }) ::
    (nat_lit 322, { cls := Value.type "tuple", data := Data.seq #[Value.str (Str.ofString "self") 584, Value.str (Str.ofString "d") 585] }) ::
    (nat_lit 323, { cls := Value.type "tuple", data := Data.seq #[] }) ::
    (nat_lit 325, { cls := Value.type "code", data := Data.fields #[Value.str (Str.ofString "compress") 581, Value.str (Str.ofString "Polynomial.compress") 582, Value.str (Str.ofString "/claim/cut.py") 583, Value.int 198 0, Value.int 2 0, Value.int 0 0, Value.int 0 0, Value.int 3 0, Value.ref 320, Value.bool true, Value.int 181 0, Value.ref 321, Value.none, Value.ref 322, Value.ref 323, Value.ref 324, Value.int 586 0, Value.int 198 0, Value.str (Str.ofString "/claim/cut.py") 587] }) ::
    (nat_lit 326, { cls := Value.type "function", data := Data.func { name := Str.ofString "compress", qualname := Str.ofString "Polynomial.compress", params := P_6_4, body := FuncBody.stmts B_6_4, scope := S_6_4, globals := 3, closure := [], defaults := Value.none, kwdefaults := Value.none, pyModule := Value.str (Str.ofString "kyber_py.polynomials.polynomials") 448, code := Value.ref 325 } }) ::
    (nat_lit 327, { cls := Value.type "tuple", data := Data.seq #[] }) ::
    (nat_lit 329, { cls := Value.type "tuple", data := Data.seq #[Value.str (Str.ofString "self") 592, Value.str (Str.ofString "d") 593] }) ::
    (nat_lit 330, { cls := Value.type "tuple", data := Data.seq #[] }) ::
    (nat_lit 332, { cls := Value.type "code", data := Data.fields #[Value.str (Str.ofString "decompress") 589, Value.str (Str.ofString "Polynomial.decompress") 590, Value.str (Str.ofString "/claim/cut.py") 591, Value.int 201 0, Value.int 2 0, Value.int 0 0, Value.int 0 0, Value.int 3 0, Value.ref 327, Value.bool true, Value.int 181 0, Value.ref 328, Value.none, Value.ref 329, Value.ref 330, Value.ref 331, Value.int 594 0, Value.int 201 0, Value.str (Str.ofString "/claim/cut.py") 595] }) ::
    (nat_lit 333, { cls := Value.type "function", data := Data.func { name := Str.ofString "decompress", qualname := Str.ofString "Polynomial.decompress", params := P_6_5, body := FuncBody.stmts B_6_5, scope := S_6_5, globals := 3, closure := [], defaults := Value.none, kwdefaults := Value.none, pyModule := Value.str (Str.ofString "kyber_py.polynomials.polynomials") 448, code := Value.ref 332 } }) ::
    (nat_lit 334, { cls := Value.type "tuple", data := Data.seq #[] }) ::
    (nat_lit 336, { cls := Value.type "tuple", data := Data.seq #[Value.str (Str.ofString "self") 600] }) ::
    (nat_lit 337, { cls := Value.type "tuple", data := Data.seq #[] }) ::
    (nat_lit 339, { cls := Value.type "code", data := Data.fields #[Value.str (Str.ofString "to_ntt") 597, Value.str (Str.ofString "Polynomial.to_ntt") 598, Value.str (Str.ofString "/claim/cut.py") 599, Value.int 204 0, Value.int 1 0, Value.int 0 0, Value.int 0 0, Value.int 3 0, Value.ref 334, Value.bool true, Value.int 181 0, Value.ref 335, Value.none, Value.ref 336, Value.ref 337, Value.ref 338, Value.int 601 0, Value.int 204 0, Value.str (Str.ofString "/claim/cut.py") 602] }) ::
    (nat_lit 340, { cls := Value.type "function", data := Data.func { name := Str.ofString "to_ntt", qualname := Str.ofString "Polynomial.to_ntt", params := P_6_6, body := FuncBody.stmts B_6_6, scope := S_6_6, globals := 3, closure := [], defaults := Value.none, kwdefaults := Value.none, pyModule := Value.str (Str.ofString "kyber_py.polynomials.polynomials") 448, code := Value.ref 339 } }) ::
    (nat_lit 341, { cls := Value.type "tuple", data := Data.seq #[] }) ::
    (nat_lit 343, { cls := Value.type "tuple", data := Data.seq #[Value.str (Str.ofString "self") 607] }) ::
    (nat_lit 344, { cls := Value.type "tuple", data := Data.seq #[] }) ::
    (nat_lit 346, { cls := Value.type "code", data := Data.fields #[Value.str (Str.ofString "from_ntt") 604, Value.str (Str.ofString "Polynomial.from_ntt") 605, Value.str (Str.ofString "/claim/cut.py") 606, Value.int 207 0, Value.int 1 0, Value.int 0 0, Value.int 0 0, Value.int 3 0, Value.ref 341, Value.bool true, Value.int 181 0, Value.ref 342, Value.none, Value.ref 343, Value.ref 344, Value.ref 345, Value.int 608 0, Value.int 207 0, Value.str (Str.ofString "/claim/cut.py") 609] }) ::
    (nat_lit 347, { cls := Value.type "function", data := Data.func { name := Str.ofString "from_ntt", qualname := Str.ofString "Polynomial.from_ntt", params := P_6_7, body := FuncBody.stmts B_6_7, scope := S_6_7, globals := 3, closure := [], defaults := Value.none, kwdefaults := Value.none, pyModule := Value.str (Str.ofString "kyber_py.polynomials.polynomials") 448, code := Value.ref 346 } }) ::
    (nat_lit 348, { cls := Value.type "tuple", data := Data.seq #[Value.str (Str.ofString "coeffs") 611, Value.str (Str.ofString "parent") 612] }) ::
    (nat_lit 349, { cls := Value.type "dict", data := Data.dict #[{ hash := PyData.keyHash P (Str.ofString "__module__"), key := Value.str (Str.ofString "__module__") 541, val := Value.str (Str.ofString "kyber_py.polynomials.polynomials") 448 }, { hash := PyData.keyHash P (Str.ofString "__firstlineno__"), key := Value.str (Str.ofString "__firstlineno__") 545, val := Value.int 183 544 }, { hash := PyData.keyHash P (Str.ofString "__init__"), key := Value.str (Str.ofString "__init__") 554, val := Value.ref 298 }, { hash := PyData.keyHash P (Str.ofString "encode"), key := Value.str (Str.ofString "encode") 562, val := Value.ref 305 }, { hash := PyData.keyHash P (Str.ofString "_compress_ele"), key := Value.str (Str.ofString "_compress_ele") 571, val := Value.ref 312 }, { hash := PyData.keyHash P (Str.ofString "_decompress_ele"), key := Value.str (Str.ofString "_decompress_ele") 580, val := Value.ref 319 }, { hash := PyData.keyHash P (Str.ofString "compress"), key := Value.str (Str.ofString "compress") 588, val := Value.ref 326 }, { hash := PyData.keyHash P (Str.ofString "decompress"), key := Value.str (Str.ofString "decompress") 596, val := Value.ref 333 }, { hash := PyData.keyHash P (Str.ofString "to_ntt"), key := Value.str (Str.ofString "to_ntt") 603, val := Value.ref 340 }, { hash := PyData.keyHash P (Str.ofString "from_ntt"), key := Value.str (Str.ofString "from_ntt") 610, val := Value.ref 347 }, { hash := PyData.keyHash P (Str.ofString "__static_attributes__"), key := Value.str (Str.ofString "__static_attributes__") 613, val := Value.ref 348 }, { hash := PyData.keyHash P (Str.ofString "__doc__"), key := Value.str (Str.ofString "__doc__") 614, val := Value.none }] 2 }) ::
    (nat_lit 350, { cls := Value.type "type", data := Data.cls { name := Str.ofString "Polynomial", bases := [Value.ref 222], mro := [Value.ref 350, Value.ref 222, Value.type "object"], ns := 349, qualname := Str.ofString "Polynomial", subclasses := [Value.ref 426] }, slots := #[some (Value.ref 285), none, some (Value.str (Str.ofString "Polynomial") 534), some (Value.str (Str.ofString "Polynomial") 542), some (Value.builtin "object.__new__"), some (Value.bool true)] }) ::
    (nat_lit 353, { cls := Value.type "tuple", data := Data.seq #[Value.ref 350] }) ::
    (nat_lit 360, { cls := Value.type "tuple", data := Data.seq #[] }) ::
    (nat_lit 362, { cls := Value.type "tuple", data := Data.seq #[Value.str (Str.ofString "self") 632, Value.str (Str.ofString "parent") 633, Value.str (Str.ofString "coefficients") 634] }) ::
    (nat_lit 363, { cls := Value.type "tuple", data := Data.seq #[] }) ::
    (nat_lit 365, { cls := Value.type "code", data := Data.fields #[Value.str (Str.ofString "__init__") 629, Value.str (Str.ofString "PolynomialNTT.__init__") 630, Value.str (Str.ofString "/claim/cut.py") 631, Value.int 211 0, Value.int 3 0, Value.int 0 0, Value.int 0 0, Value.int 3 0, Value.ref 360, Value.bool true, Value.int 181 0, Value.ref 361, Value.none, Value.ref 362, Value.ref 363, Value.ref 364, Value.int 635 0, Value.int 211 0, Value.str (Str.ofString "/claim/cut.py") 636] }) ::
    (nat_lit 366, { cls := Value.type "function", data := Data.func { name := Str.ofString "__init__", qualname := Str.ofString "PolynomialNTT.__init__", params := P_7_0, body := FuncBody.stmts B_7_0, scope := S_7_0, globals := 3, closure := [], defaults := Value.none, kwdefaults := Value.none, pyModule := Value.str (Str.ofString "kyber_py.polynomials.polynomials") 448, code := Value.ref 365 } }) ::
    (nat_lit 367, { cls := Value.type "tuple", data := Data.seq #[] }) ::
    (nat_lit 369, { cls := Value.type "tuple", data := Data.seq #[Value.str (Str.ofString "self") 641] }) ::
    (nat_lit 370, { cls := Value.type "tuple", data := Data.seq #[] }) ::
    (nat_lit 372, { cls := Value.type "code", data := Data.fields #[Value.str (Str.ofString "to_ntt") 638, Value.str (Str.ofString "PolynomialNTT.to_ntt") 639, Value.str (Str.ofString "/claim/cut.py") 640, Value.int 215 0, Value.int 1 0, Value.int 0 0, Value.int 0 0, Value.int 3 0, Value.ref 367, Value.bool true, Value.int 181 0, Value.ref 368, Value.none, Value.ref 369, Value.ref 370, Value.ref 371, Value.int 642 0, Value.int 215 0, Value.str (Str.ofString "/claim/cut.py") 643] }) ::
    (nat_lit 373, { cls := Value.type "function", data := Data.func { name := Str.ofString "to_ntt", qualname := Str.ofString "PolynomialNTT.to_ntt", params := P_7_1, body := FuncBody.stmts B_7_1, scope := S_7_1, globals := 3, closure := [], defaults := Value.none, kwdefaults := Value.none, pyModule := Value.str (Str.ofString "kyber_py.polynomials.polynomials") 448, code := Value.ref 372 } }) ::
    (nat_lit 374, { cls := Value.type "tuple", data := Data.seq #[] }) ::
    (nat_lit 376, { cls := Value.type "tuple", data := Data.seq #[Value.str (Str.ofString "self") 648, Value.str (Str.ofString "l") 649, Value.str (Str.ofString "l_upper") 650, Value.str (Str.ofString "k") 651, Value.str (Str.ofString "coeffs") 652, Value.str (Str.ofString "zetas") 653, Value.str (Str.ofString "start") 654, Value.str (Str.ofString "zeta") 655, Value.str (Str.ofString "j") 656, Value.str (Str.ofString "t") 657, Value.str (Str.ofString "f") 658] }) ::
    (nat_lit 377, { cls := Value.type "tuple", data := Data.seq #[] }) ::
    (nat_lit 379, { cls := Value.type "code", data := Data.fields #[Value.str (Str.ofString "from_ntt") 645, Value.str (Str.ofString "PolynomialNTT.from_ntt") 646, Value.str (Str.ofString "/claim/cut.py") 647, Value.int 218 0, Value.int 1 0, Value.int 0 0, Value.int 0 0, Value.int 3 0, Value.ref 374, Value.bool true, Value.int 181 0, Value.ref 375, Value.none, Value.ref 376, Value.ref 377, Value.ref 378, Value.int 659 0, Value.int 218 0, Value.str (Str.ofString "/claim/cut.py") 660] }) ::
    (nat_lit 380, { cls := Value.type "function", data := Data.func { name := Str.ofString "from_ntt", qualname := Str.ofString "PolynomialNTT.from_ntt", params := P_7_2, body := FuncBody.stmts B_7_2, scope := S_7_2, globals := 3, closure := [], defaults := Value.none, kwdefaults := Value.none, pyModule := Value.str (Str.ofString "kyber_py.polynomials.polynomials") 448, code := Value.ref 379 } }) ::
    (nat_lit 381, { cls := Value.type "tuple", data := Data.seq #[] }) ::
    (nat_lit 383, { cls := Value.type "tuple", data := Data.seq #[Value.str (Str.ofString "a0") 665, Value.str (Str.ofString "a1") 666, Value.str (Str.ofString "b0") 667, Value.str (Str.ofString "b1") 668, Value.str (Str.ofString "zeta") 669, Value.str (Str.ofString "r0") 670, Value.str (Str.ofString "r1") 671] }) ::
    (nat_lit 384, { cls := Value.type "tuple", data := Data.seq #[] }) ::
    (nat_lit 386, { cls := Value.type "code", data := Data.fields #[Value.str (Str.ofString "_ntt_base_multiplication") 662, Value.str (Str.ofString "PolynomialNTT._ntt_base_multiplication") 663, Value.str (Str.ofString "/claim/cut.py") 664, Value.int 241 0, Value.int 5 0, Value.int 0 0, Value.int 0 0, Value.int 3 0, Value.ref 381, Value.bool true, Value.int 181 0, Value.ref 382, Value.none, Value.ref 383, Value.ref 384, Value.ref 385, Value.int 672 0, Value.int 241 0, Value.str (Str.ofString "/claim/cut.py") 673] }) ::
    (nat_lit 387, { cls := Value.type "function", data := Data.func { name := Str.ofString "_ntt_base_multiplication", qualname := Str.ofString "PolynomialNTT._ntt_base_multiplication", params := P_7_3, body := FuncBody.stmts B_7_3, scope := S_7_3, globals := 3, closure := [], defaults := Value.none, kwdefaults := Value.none, pyModule := Value.str (Str.ofString "kyber_py.polynomials.polynomials") 448, annotations := some 390, code := Value.ref 386 } }) ::
    (nat_lit 388, { cls := Value.type "dict", data := Data.dict #[{ hash := PyData.keyHash P (Str.ofString "__module__"), key := Value.str (Str.ofString "__module__") 675, val := Value.str (Str.ofString "kyber_py.polynomials.polynomials") 448 }, { hash := PyData.keyHash P (Str.ofString "__name__"), key := Value.str (Str.ofString "__name__") 678, val := Value.str (Str.ofString "_ntt_base_multiplication") 677 }, { hash := PyData.keyHash P (Str.ofString "__qualname__"), key := Value.str (Str.ofString "__qualname__") 681, val := Value.str (Str.ofString "PolynomialNTT._ntt_base_multiplication") 680 }, { hash := PyData.keyHash P (Str.ofString "__doc__"), key := Value.str (Str.ofString "__doc__") 683, val := Value.none }, { hash := PyData.keyHash P (Str.ofString "__annotations__"), key := Value.str (Str.ofString "__annotations__") 685, val := Value.ref 390 }] 5 }) ::
    (nat_lit 389, { cls := Value.type "staticmethod", dict := some 388, data := Data.fields #[Value.ref 387, Value.bool false] }) ::
    (nat_lit 390, { cls := Value.type "dict", data := Data.dict #[] }) ::
    (nat_lit 391, { cls := Value.type "tuple", data := Data.seq #[] }) ::
    (nat_lit 393, { cls := Value.type "tuple", data := Data.seq #[Value.str (Str.ofString "self") 690, Value.str (Str.ofString "f_coeffs") 691, Value.str (Str.ofString "g_coeffs") 692, Value.str (Str.ofString "new_coeffs") 693, Value.str (Str.ofString "zetas") 694, Value.str (Str.ofString "i") 695, Value.str (Str.ofString "r0") 696, Value.str (Str.ofString "r1") 697, Value.str (Str.ofString "r2") 698, Value.str (Str.ofString "r3") 699] }) ::
    (nat_lit 394, { cls := Value.type "tuple", data := Data.seq #[] }) ::
    (nat_lit 396, { cls := Value.type "code", data := Data.fields #[Value.str (Str.ofString "_ntt_coefficient_multiplication") 687, Value.str (Str.ofString "PolynomialNTT._ntt_coefficient_multiplication") 688, Value.str (Str.ofString "/claim/cut.py") 689, Value.int 247 0, Value.int 3 0, Value.int 0 0, Value.int 0 0, Value.int 3 0, Value.ref 391, Value.bool true, Value.int 181 0, Value.ref 392, Value.none, Value.ref 393, Value.ref 394, Value.ref 395, Value.int 700 0, Value.int 247 0, Value.str (Str.ofString "/claim/cut.py") 701] }) ::
    (nat_lit 397, { cls := Value.type "function", data := Data.func { name := Str.ofString "_ntt_coefficient_multiplication", qualname := Str.ofString "PolynomialNTT._ntt_coefficient_multiplication", params := P_7_4, body := FuncBody.stmts B_7_4, scope := S_7_4, globals := 3, closure := [], defaults := Value.none, kwdefaults := Value.none, pyModule := Value.str (Str.ofString "kyber_py.polynomials.polynomials") 448, code := Value.ref 396 } }) ::
    (nat_lit 398, { cls := Value.type "tuple", data := Data.seq #[] }) ::
    (nat_lit 400, { cls := Value.type "tuple", data := Data.seq #[Value.str (Str.ofString "self") 706, Value.str (Str.ofString "other") 707, Value.str (Str.ofString "new_coeffs") 708] }) ::
    (nat_lit 401, { cls := Value.type "tuple", data := Data.seq #[] }) ::
    (nat_lit 403, { cls := Value.type "code", data := Data.fields #[Value.str (Str.ofString "_ntt_multiplication") 703, Value.str (Str.ofString "PolynomialNTT._ntt_multiplication") 704, Value.str (Str.ofString "/claim/cut.py") 705, Value.int 256 0, Value.int 2 0, Value.int 0 0, Value.int 0 0, Value.int 3 0, Value.ref 398, Value.bool true, Value.int 181 0, Value.ref 399, Value.none, Value.ref 400, Value.ref 401, Value.ref 402, Value.int 709 0, Value.int 256 0, Value.str (Str.ofString "/claim/cut.py") 710] }) ::
    (nat_lit 404, { cls := Value.type "function", data := Data.func { name := Str.ofString "_ntt_multiplication", qualname := Str.ofString "PolynomialNTT._ntt_multiplication", params := P_7_5, body := FuncBody.stmts B_7_5, scope := S_7_5, globals := 3, closure := [], defaults := Value.none, kwdefaults := Value.none, pyModule := Value.str (Str.ofString "kyber_py.polynomials.polynomials") 448, code := Value.ref 403 } }) ::
    (nat_lit 405, { cls := Value.type "tuple", data := Data.seq #[] }) ::
    (nat_lit 407, { cls := Value.type "tuple", data := Data.seq #[Value.str (Str.ofString "self") 715, Value.str (Str.ofString "other") 716, Value.str (Str.ofString "new_coeffs") 717] }) ::
    (nat_lit 408, { cls := Value.type "tuple", data := Data.seq #[] }) ::
    (nat_lit 410, { cls := Value.type "code", data := Data.fields #[Value.str (Str.ofString "__add__") 712, Value.str (Str.ofString "PolynomialNTT.__add__") 713, Value.str (Str.ofString "/claim/cut.py") 714, Value.int 260 0, Value.int 2 0, Value.int 0 0, Value.int 0 0, Value.int 3 0, Value.ref 405, Value.bool true, Value.int 181 0, Value.ref 406, Value.none, Value.ref 407, Value.ref 408, Value.ref 409, Value.int 718 0, Value.int 260 0, Value.str (Str.ofString "/claim/cut.py") 719] }) ::
    (nat_lit 411, { cls := Value.type "function", data := Data.func { name := Str.ofString "__add__", qualname := Str.ofString "PolynomialNTT.__add__", params := P_7_6, body := FuncBody.stmts B_7_6, scope := S_7_6, globals := 3, closure := [], defaults := Value.none, kwdefaults := Value.none, pyModule := Value.str (Str.ofString "kyber_py.polynomials.polynomials") 448, code := Value.ref 410 } }) ::
    (nat_lit 412, { cls := Value.type "tuple", data := Data.seq #[] }) ::
    (nat_lit 414, { cls := Value.type "tuple", data := Data.seq #[Value.str (Str.ofString "self") 724, Value.str (Str.ofString "other") 725, Value.str (Str.ofString "new_coeffs") 726] }) ::
    (nat_lit 415, { cls := Value.type "tuple", data := Data.seq #[] }) ::
    (nat_lit 417, { cls := Value.type "code", data := Data.fields #[Value.str (Str.ofString "__sub__") 721, Value.str (Str.ofString "PolynomialNTT.__sub__") 722, Value.str (Str.ofString "/claim/cut.py") 723, Value.int 264 0, Value.int 2 0, Value.int 0 0, Value.int 0 0, Value.int 3 0, Value.ref 412, Value.bool true, Value.int 181 0, Value.ref 413, Value.none, Value.ref 414, Value.ref 415, Value.ref 416, Value.int 727 0, Value.int 264 0, Value.str (Str.ofString "/claim/cut.py") 728] }) ::
    (nat_lit 418, { cls := Value.type "function", data := Data.func { name := Str.ofString "__sub__", qualname := Str.ofString "PolynomialNTT.__sub__", params := P_7_7, body := FuncBody.stmts B_7_7, scope := S_7_7, globals := 3, closure := [], defaults := Value.none, kwdefaults := Value.none, pyModule := Value.str (Str.ofString "kyber_py.polynomials.polynomials") 448, code := Value.ref 417 } }) ::
    (nat_lit 419, { cls := Value.type "tuple", data := Data.seq #[] }) ::
    (nat_lit 422, { cls := Value.type "code", data := Data.fields #[Value.str (Str.ofString "__mul__") 730, Value.str (Str.ofString "PolynomialNTT.__mul__") 731, Value.str (Str.ofString "/claim/cut.py") 732, Value.int 268 0, Value.int 2 0, Value.int 0 0, Value.int 0 0, Value.int 3 0, Value.ref 419, Value.bool true, Value.int 181 0, Value.ref 420, Value.none, Value.none, Value.none, Value.ref 421, Value.int 733 0, Value.int 268 0, Value.str (Str.ofString "/claim/cut.py") 734] }) ::
    (nat_lit 423, { cls := Value.type "function", data := Data.func { name := Str.ofString "__mul__", qualname := Str.ofString "PolynomialNTT.__mul__", params := P_7_8, body := FuncBody.stmts B_7_8, scope := S_7_8, globals := 3, closure := [], defaults := Value.none, kwdefaults := Value.none, pyModule := Value.str (Str.ofString "kyber_py.polynomials.polynomials") 448, code := Value.ref 422 } }) ::
    (nat_lit 424, { cls := Value.type "tuple", data := Data.seq #[Value.str (Str.ofString "coeffs") 736, Value.str (Str.ofString "parent") 737] }) ::
    (nat_lit 425, { cls := Value.type "dict", data := Data.dict #[{ hash := PyData.keyHash P (Str.ofString "__module__"), key := Value.str (Str.ofString "__module__") 624, val := Value.str (Str.ofString "kyber_py.polynomials.polynomials") 448 }, { hash := PyData.keyHash P (Str.ofString "__firstlineno__"), key := Value.str (Str.ofString "__firstlineno__") 628, val := Value.int 209 627 }, { hash := PyData.keyHash P (Str.ofString "__init__"), key := Value.str (Str.ofString "__init__") 637, val := Value.ref 366 }, { hash := PyData.keyHash P (Str.ofString "to_ntt"), key := Value.str (Str.ofString "to_ntt") 644, val := Value.ref 373 }, { hash := PyData.keyHash P (Str.ofString "from_ntt"), key := Value.str (Str.ofString "from_ntt") 661, val := Value.ref 380 }, { hash := PyData.keyHash P (Str.ofString "_ntt_base_multiplication"), key := Value.str (Str.ofString "_ntt_base_multiplication") 686, val := Value.ref 389 }, { hash := PyData.keyHash P (Str.ofString "_ntt_coefficient_multiplication"), key := Value.str (Str.ofString "_ntt_coefficient_multiplication") 702, val := Value.ref 397 }, { hash := PyData.keyHash P (Str.ofString "_ntt_multiplication"), key := Value.str (Str.ofString "_ntt_multiplication") 711, val := Value.ref 404 }, { hash := PyData.keyHash P (Str.ofString "__add__"), key := Value.str (Str.ofString "__add__") 720, val := Value.ref 411 }, { hash := PyData.keyHash P (Str.ofString "__sub__"), key := Value.str (Str.ofString "__sub__") 729, val := Value.ref 418 }, { hash := PyData.keyHash P (Str.ofString "__mul__"), key := Value.str (Str.ofString "__mul__") 735, val := Value.ref 423 }, { hash := PyData.keyHash P (Str.ofString "__static_attributes__"), key := Value.str (Str.ofString "__static_attributes__") 738, val := Value.ref 424 }, { hash := PyData.keyHash P (Str.ofString "__doc__"), key := Value.str (Str.ofString "__doc__") 739, val := Value.none }] 2 }) ::
    (nat_lit 426, { cls := Value.type "type", data := Data.cls { name := Str.ofString "PolynomialNTT", bases := [Value.ref 350], mro := [Value.ref 426, Value.ref 350, Value.ref 222, Value.type "object"], ns := 425, qualname := Str.ofString "PolynomialNTT" }, slots := #[some (Value.ref 353), none, some (Value.str (Str.ofString "PolynomialNTT") 617), some (Value.str (Str.ofString "PolynomialNTT") 625), some (Value.builtin "object.__new__"), some (Value.bool true)] }) ::
    (nat_lit 429, { cls := Value.type "tuple", data := Data.seq #[] }) ::
    (nat_lit 432, { cls := Value.type "code", data := Data.fields #[Value.str (Str.ofString "_law_state") 744, Value.str (Str.ofString "_law_state") 745, Value.str (Str.ofString "/claim/cut.py") 746, Value.int 277 0, Value.int 1 0, Value.int 0 0, Value.int 0 0, Value.int 3 0, Value.ref 429, Value.bool true, Value.int 181 0, Value.ref 430, Value.none, Value.none, Value.none, Value.ref 431, Value.int 747 0, Value.int 277 0, Value.str (Str.ofString "/claim/cut.py") 748] }) ::
    (nat_lit 433, { cls := Value.type "function", data := Data.func { name := Str.ofString "_law_state", qualname := Str.ofString "_law_state", params := P_9, body := FuncBody.stmts B_9, scope := S_9, globals := 3, closure := [], defaults := Value.none, kwdefaults := Value.none, pyModule := Value.str (Str.ofString "law_yi0046_01") 742, code := Value.ref 432 } }) ::
    (nat_lit 434, { cls := Value.type "tuple", data := Data.seq #[] }) ::
    (nat_lit 436, { cls := Value.type "tuple", data := Data.seq #[Value.str (Str.ofString "state") 753, Value.str (Str.ofString "most") 754, Value.str (Str.ofString "cells") 755, Value.str (Str.ofString "at") 756, Value.str (Str.ofString "cell") 757, Value.str (Str.ofString "mixed") 758] }) ::
    (nat_lit 437, { cls := Value.type "tuple", data := Data.seq #[] }) ::
    (nat_lit 439, { cls := Value.type "code", data := Data.fields #[Value.str (Str.ofString "_law_take") 750, Value.str (Str.ofString "_law_take") 751, Value.str (Str.ofString "/claim/cut.py") 752, Value.int 282 0, Value.int 2 0, Value.int 0 0, Value.int 0 0, Value.int 3 0, Value.ref 434, Value.bool true, Value.int 181 0, Value.ref 435, Value.none, Value.ref 436, Value.ref 437, Value.ref 438, Value.int 759 0, Value.int 282 0, Value.str (Str.ofString "/claim/cut.py") 760] }) ::
    (nat_lit 440, { cls := Value.type "function", data := Data.func { name := Str.ofString "_law_take", qualname := Str.ofString "_law_take", params := P_10, body := FuncBody.stmts B_10, scope := S_10, globals := 3, closure := [], defaults := Value.none, kwdefaults := Value.none, pyModule := Value.str (Str.ofString "law_yi0046_01") 742, code := Value.ref 439 } }) ::
    (nat_lit 441, { cls := Value.type "tuple", data := Data.seq #[] }) ::
    (nat_lit 443, { cls := Value.type "tuple", data := Data.seq #[Value.str (Str.ofString "place") 765, Value.str (Str.ofString "turned") 766, Value.str (Str.ofString "k") 767] }) ::
    (nat_lit 444, { cls := Value.type "tuple", data := Data.seq #[] }) ::
    (nat_lit 446, { cls := Value.type "code", data := Data.fields #[Value.str (Str.ofString "_law_root") 762, Value.str (Str.ofString "_law_root") 763, Value.str (Str.ofString "/claim/cut.py") 764, Value.int 293 0, Value.int 1 0, Value.int 0 0, Value.int 0 0, Value.int 3 0, Value.ref 441, Value.bool true, Value.int 181 0, Value.ref 442, Value.none, Value.ref 443, Value.ref 444, Value.ref 445, Value.int 768 0, Value.int 293 0, Value.str (Str.ofString "/claim/cut.py") 769] }) ::
    (nat_lit 447, { cls := Value.type "function", data := Data.func { name := Str.ofString "_law_root", qualname := Str.ofString "_law_root", params := P_11, body := FuncBody.stmts B_11, scope := S_11, globals := 3, closure := [], defaults := Value.none, kwdefaults := Value.none, pyModule := Value.str (Str.ofString "law_yi0046_01") 742, code := Value.ref 446 } }) ::
    (nat_lit 448, { cls := Value.type "tuple", data := Data.seq #[] }) ::
    (nat_lit 450, { cls := Value.type "tuple", data := Data.seq #[Value.str (Str.ofString "roots") 774, Value.str (Str.ofString "degree") 775, Value.str (Str.ofString "number") 776, Value.str (Str.ofString "row") 777, Value.str (Str.ofString "place") 778] }) ::
    (nat_lit 451, { cls := Value.type "tuple", data := Data.seq #[] }) ::
    (nat_lit 453, { cls := Value.type "code", data := Data.fields #[Value.str (Str.ofString "_law_transform") 771, Value.str (Str.ofString "_law_transform") 772, Value.str (Str.ofString "/claim/cut.py") 773, Value.int 299 0, Value.int 3 0, Value.int 0 0, Value.int 0 0, Value.int 3 0, Value.ref 448, Value.bool true, Value.int 181 0, Value.ref 449, Value.none, Value.ref 450, Value.ref 451, Value.ref 452, Value.int 779 0, Value.int 299 0, Value.str (Str.ofString "/claim/cut.py") 780] }) ::
    (nat_lit 454, { cls := Value.type "function", data := Data.func { name := Str.ofString "_law_transform", qualname := Str.ofString "_law_transform", params := P_12, body := FuncBody.stmts B_12, scope := S_12, globals := 3, closure := [], defaults := Value.none, kwdefaults := Value.none, pyModule := Value.str (Str.ofString "law_yi0046_01") 742, code := Value.ref 453 } }) ::
    (nat_lit 455, { cls := Value.type "tuple", data := Data.seq #[] }) ::
    (nat_lit 458, { cls := Value.type "code", data := Data.fields #[Value.str (Str.ofString "law") 782, Value.str (Str.ofString "law") 783, Value.str (Str.ofString "/claim/cut.py") 784, Value.int 304 0, Value.int 1 0, Value.int 0 0, Value.int 0 0, Value.int 3 0, Value.ref 455, Value.bool true, Value.int 181 0, Value.ref 456, Value.none, Value.none, Value.none, Value.ref 457, Value.int 785 0, Value.int 304 0, Value.str (Str.ofString "/claim/cut.py") 786] }) ::
    (nat_lit 459, { cls := Value.type "function", data := Data.func { name := Str.ofString "law", qualname := Str.ofString "law", params := P_13, body := FuncBody.stmts B_13, scope := S_13, globals := 3, closure := [], defaults := Value.none, kwdefaults := Value.none, pyModule := Value.str (Str.ofString "law_yi0046_01") 742, code := Value.ref 458 } }) :: [] : Frag) = x) → Frag) _ ?h
  case f => exact fun x _ => x
  case h => conv => lhs; delta P_0 B_0 S_0 P_2_0 B_2_0 S_2_0 P_2_1 B_2_1 S_2_1 P_2_2 B_2_2 S_2_2 P_2_3 B_2_3 S_2_3 P_3_0 B_3_0 S_3_0 P_3_1 B_3_1 S_3_1 P_3_2 B_3_2 S_3_2 P_3_3 B_3_3 S_3_3 P_3_4 B_3_4 S_3_4 P_3_5 B_3_5 S_3_5 P_3_6 B_3_6 S_3_6 P_3_7 B_3_7 S_3_7 P_3_8 B_3_8 S_3_8 P_3_9 B_3_9 S_3_9 P_3_10 B_3_10 S_3_10 P_3_11 B_3_11 S_3_11 P_3_12 B_3_12 S_3_12 P_3_13 B_3_13 S_3_13 P_3_14 B_3_14 S_3_14 P_3_15 B_3_15 S_3_15 P_3_16 B_3_16 S_3_16 P_3_17 B_3_17 S_3_17 P_3_18 B_3_18 S_3_18 P_3_19 B_3_19 S_3_19 P_3_20 B_3_20 S_3_20 P_3_21 B_3_21 S_3_21 P_3_22 B_3_22 S_3_22 P_5_0 B_5_0 S_5_0 P_5_1 B_5_1 S_5_1 P_5_2 B_5_2 S_5_2 P_5_3 B_5_3 S_5_3 P_5_4 B_5_4 S_5_4 P_5_5 B_5_5 S_5_5 P_6_0 B_6_0 S_6_0 P_6_1 B_6_1 S_6_1 P_6_2 B_6_2 S_6_2 P_6_3 B_6_3 S_6_3 P_6_4 B_6_4 S_6_4 P_6_5 B_6_5 S_6_5 P_6_6 B_6_6 S_6_6 P_6_7 B_6_7 S_6_7 P_7_0 B_7_0 S_7_0 P_7_1 B_7_1 S_7_1 P_7_2 B_7_2 S_7_2 P_7_3 B_7_3 S_7_3 P_7_4 B_7_4 S_7_4 P_7_5 B_7_5 S_7_5 P_7_6 B_7_6 S_7_6 P_7_7 B_7_7 S_7_7 P_7_8 B_7_8 S_7_8 P_9 B_9 S_9 P_10 B_10 S_10 P_11 B_11 S_11 P_12 B_12 S_12 P_13 B_13 S_13
noncomputable def st_0 : Stmt := by
  refine' (?f : (x : Stmt) → (nth pw.main.body 0 = x) → Stmt) _ ?h
  case f => exact fun x _ => x
  case h => conv => lhs; whnf
noncomputable def st_1 : Stmt := by
  refine' (?f : (x : Stmt) → (nth pw.main.body 1 = x) → Stmt) _ ?h
  case f => exact fun x _ => x
  case h => conv => lhs; whnf
noncomputable def st_2 : Stmt := by
  refine' (?f : (x : Stmt) → (nth pw.main.body 2 = x) → Stmt) _ ?h
  case f => exact fun x _ => x
  case h => conv => lhs; whnf
noncomputable def st_3 : Stmt := by
  refine' (?f : (x : Stmt) → (nth pw.main.body 3 = x) → Stmt) _ ?h
  case f => exact fun x _ => x
  case h => conv => lhs; whnf
noncomputable def st_4 : Stmt := by
  refine' (?f : (x : Stmt) → (nth pw.main.body 4 = x) → Stmt) _ ?h
  case f => exact fun x _ => x
  case h => conv => lhs; whnf
noncomputable def st_5 : Stmt := by
  refine' (?f : (x : Stmt) → (nth pw.main.body 5 = x) → Stmt) _ ?h
  case f => exact fun x _ => x
  case h => conv => lhs; whnf
noncomputable def st_6 : Stmt := by
  refine' (?f : (x : Stmt) → (nth pw.main.body 6 = x) → Stmt) _ ?h
  case f => exact fun x _ => x
  case h => conv => lhs; whnf
noncomputable def st_7 : Stmt := by
  refine' (?f : (x : Stmt) → (nth pw.main.body 7 = x) → Stmt) _ ?h
  case f => exact fun x _ => x
  case h => conv => lhs; whnf
noncomputable def st_8 : Stmt := by
  refine' (?f : (x : Stmt) → (nth pw.main.body 8 = x) → Stmt) _ ?h
  case f => exact fun x _ => x
  case h => conv => lhs; whnf
noncomputable def st_9 : Stmt := by
  refine' (?f : (x : Stmt) → (nth pw.main.body 9 = x) → Stmt) _ ?h
  case f => exact fun x _ => x
  case h => conv => lhs; whnf
noncomputable def st_10 : Stmt := by
  refine' (?f : (x : Stmt) → (nth pw.main.body 10 = x) → Stmt) _ ?h
  case f => exact fun x _ => x
  case h => conv => lhs; whnf
noncomputable def st_11 : Stmt := by
  refine' (?f : (x : Stmt) → (nth pw.main.body 11 = x) → Stmt) _ ?h
  case f => exact fun x _ => x
  case h => conv => lhs; whnf
noncomputable def st_12 : Stmt := by
  refine' (?f : (x : Stmt) → (nth pw.main.body 12 = x) → Stmt) _ ?h
  case f => exact fun x _ => x
  case h => conv => lhs; whnf
noncomputable def st_13 : Stmt := by
  refine' (?f : (x : Stmt) → (nth pw.main.body 13 = x) → Stmt) _ ?h
  case f => exact fun x _ => x
  case h => conv => lhs; whnf
noncomputable def q : Program := by
  refine' (?f : (x : Program) → (({ rw.row.toRowW.prog with main := { rw.row.toRowW.prog.main with body := [st_0, st_2, st_3, st_5, st_6, st_7, st_9, st_10, st_11, st_12, st_13] } } : Program) = x) → Program) _ ?h
  case f => exact fun x _ => x
  case h => conv => lhs; delta st_0 st_2 st_3 st_5 st_6 st_7 st_9 st_10 st_11 st_12 st_13
abbrev loose : List Str := [Str.ofString "PolynomialRing", Str.ofString "PolynomialNTT"]
abbrev as : List Addr := [nat_lit 2, nat_lit 3, nat_lit 15, nat_lit 17, nat_lit 18, nat_lit 20, nat_lit 21, nat_lit 29, nat_lit 31, nat_lit 32, nat_lit 34, nat_lit 35, nat_lit 36, nat_lit 38, nat_lit 39, nat_lit 41, nat_lit 42, nat_lit 43, nat_lit 45, nat_lit 46, nat_lit 48, nat_lit 49, nat_lit 50, nat_lit 52, nat_lit 53, nat_lit 55, nat_lit 56, nat_lit 57, nat_lit 58, nat_lit 59, nat_lit 60, nat_lit 61, nat_lit 71, nat_lit 73, nat_lit 74, nat_lit 76, nat_lit 77, nat_lit 78, nat_lit 80, nat_lit 81, nat_lit 83, nat_lit 84, nat_lit 85, nat_lit 87, nat_lit 88, nat_lit 90, nat_lit 91, nat_lit 92, nat_lit 95, nat_lit 96, nat_lit 97, nat_lit 99, nat_lit 100, nat_lit 102, nat_lit 103, nat_lit 104, nat_lit 106, nat_lit 107, nat_lit 109, nat_lit 110, nat_lit 111, nat_lit 113, nat_lit 114, nat_lit 116, nat_lit 117, nat_lit 118, nat_lit 121, nat_lit 122, nat_lit 123, nat_lit 126, nat_lit 127, nat_lit 128, nat_lit 131, nat_lit 132, nat_lit 133, nat_lit 135, nat_lit 136, nat_lit 138, nat_lit 139, nat_lit 140, nat_lit 142, nat_lit 143, nat_lit 145, nat_lit 146, nat_lit 147, nat_lit 149, nat_lit 150, nat_lit 152, nat_lit 153, nat_lit 154, nat_lit 157, nat_lit 158, nat_lit 159, nat_lit 161, nat_lit 162, nat_lit 164, nat_lit 165, nat_lit 166, nat_lit 168, nat_lit 169, nat_lit 171, nat_lit 172, nat_lit 173, nat_lit 175, nat_lit 176, nat_lit 178, nat_lit 179, nat_lit 180, nat_lit 183, nat_lit 184, nat_lit 185, nat_lit 187, nat_lit 188, nat_lit 190, nat_lit 191, nat_lit 192, nat_lit 194, nat_lit 195, nat_lit 197, nat_lit 198, nat_lit 199, nat_lit 201, nat_lit 202, nat_lit 204, nat_lit 205, nat_lit 206, nat_lit 208, nat_lit 209, nat_lit 211, nat_lit 212, nat_lit 213, nat_lit 215, nat_lit 216, nat_lit 218, nat_lit 219, nat_lit 220, nat_lit 221, nat_lit 222, nat_lit 223, nat_lit 224, nat_lit 227, nat_lit 234, nat_lit 237, nat_lit 238, nat_lit 239, nat_lit 241, nat_lit 242, nat_lit 244, nat_lit 245, nat_lit 246, nat_lit 247, nat_lit 248, nat_lit 249, nat_lit 251, nat_lit 252, nat_lit 254, nat_lit 255, nat_lit 256, nat_lit 257, nat_lit 259, nat_lit 260, nat_lit 262, nat_lit 263, nat_lit 264, nat_lit 265, nat_lit 267, nat_lit 268, nat_lit 270, nat_lit 271, nat_lit 272, nat_lit 273, nat_lit 275, nat_lit 276, nat_lit 278, nat_lit 279, nat_lit 280, nat_lit 281, nat_lit 282, nat_lit 285, nat_lit 292, nat_lit 294, nat_lit 295, nat_lit 297, nat_lit 298, nat_lit 299, nat_lit 301, nat_lit 302, nat_lit 304, nat_lit 305, nat_lit 306, nat_lit 308, nat_lit 309, nat_lit 311, nat_lit 312, nat_lit 313, nat_lit 315, nat_lit 316, nat_lit 318, nat_lit 319, nat_lit 320, nat_lit 322, nat_lit 323, nat_lit 325, nat_lit 326, nat_lit 327, nat_lit 329, nat_lit 330, nat_lit 332, nat_lit 333, nat_lit 334, nat_lit 336, nat_lit 337, nat_lit 339, nat_lit 340, nat_lit 341, nat_lit 343, nat_lit 344, nat_lit 346, nat_lit 347, nat_lit 348, nat_lit 349, nat_lit 350, nat_lit 353, nat_lit 360, nat_lit 362, nat_lit 363, nat_lit 365, nat_lit 366, nat_lit 367, nat_lit 369, nat_lit 370, nat_lit 372, nat_lit 373, nat_lit 374, nat_lit 376, nat_lit 377, nat_lit 379, nat_lit 380, nat_lit 381, nat_lit 383, nat_lit 384, nat_lit 386, nat_lit 387, nat_lit 388, nat_lit 389, nat_lit 390, nat_lit 391, nat_lit 393, nat_lit 394, nat_lit 396, nat_lit 397, nat_lit 398, nat_lit 400, nat_lit 401, nat_lit 403, nat_lit 404, nat_lit 405, nat_lit 407, nat_lit 408, nat_lit 410, nat_lit 411, nat_lit 412, nat_lit 414, nat_lit 415, nat_lit 417, nat_lit 418, nat_lit 419, nat_lit 422, nat_lit 423, nat_lit 424, nat_lit 425, nat_lit 426, nat_lit 429, nat_lit 432, nat_lit 433, nat_lit 434, nat_lit 436, nat_lit 437, nat_lit 439, nat_lit 440, nat_lit 441, nat_lit 443, nat_lit 444, nat_lit 446, nat_lit 447, nat_lit 448, nat_lit 450, nat_lit 451, nat_lit 453, nat_lit 454, nat_lit 455, nat_lit 458, nat_lit 459]
theorem asK : ∀ P : Params, as = (K P).map (·.1) := fun _ => by kernel_rfl
/-- the top's run over a heap that is kept as a tree -/
def topRunT (tb : String → Option Builtin) (p : Program) (w : World) (n₀ : Nat) (ann : Option Value) : Nat → SharedT → Thread → Option SharedT
  | 0, _, _ => none
  | n + 1, s, t => match through t with
    | true => some s
    | false => match stepOk n₀ ann t with
      | false => none
      | true => match stepT (denote tb) p w s t with
        | some (s', t') => topRunT tb p w n₀ ann n s' t'
        | none => none
theorem topRun_of {tb : String → Option Builtin} {p : Program} {w : World} {n₀ : Nat} {ann : Option Value} : ∀ {n : Nat} {s s' : SharedT} {t : Thread}, topRunT tb p w n₀ ann n s t = some s' → topRun tb p w n₀ ann n s.abs t = some s'.abs
  | 0, _, _, _, h => by cases h
  | n + 1, s, s', t, h => by
    unfold topRunT at h
    unfold topRun
    cases he : through t with
    | true => rw [he] at h; cases h; rfl
    | false =>
      rw [he] at h
      cases hk : stepOk n₀ ann t with
      | false => rw [hk] at h; cases h
      | true =>
        rw [hk] at h
        cases hs : stepT (denote tb) p w s t with
        | none => rw [hs] at h; cases h
        | some r => obtain ⟨s₂, t₂⟩ := r; rw [hs] at h; rw [stepT_spec hs]; exact topRun_of h
def treeOf (l : List Obj) : BT := (l.foldl (fun x o => (x.1.ins x.2 o, x.2 + 1)) (BT.nil, 0)).1
noncomputable def boot (P : Params) (os : OsState) : SharedT := ⟨treeOf (boot_heap P).objs.toList, 11, (boot_heap P).life, #[], boot_drawn, boot_toks, os⟩
theorem boot_abs (P : Params) (os : OsState) : (boot P os).abs = ⟨boot_heap P, #[], boot_drawn, boot_toks, os⟩ := by
  show SharedT.abs (boot P os) = _
  unfold boot SharedT.abs
  congr 1
  kernel_rfl
noncomputable def o0_a : Params → Obj := fun P => { cls := Value.type "dict", data := Data.dict #[{ hash := PyData.keyHash P (Str.ofString "__name__"), key := Value.str (Str.ofString "__name__") 1, val := Value.str (Str.ofString "builtins") 160 }, { hash := PyData.keyHash P (Str.ofString "__doc__"), key := Value.str (Str.ofString "__doc__") 2, val := Value.builtin "builtins.__doc__:str#opaque" }, { hash := PyData.keyHash P (Str.ofString "__package__"), key := Value.str (Str.ofString "__package__") 3, val := Value.builtin "builtins.__package__:str#opaque" }, { hash := PyData.keyHash P (Str.ofString "__loader__"), key := Value.str (Str.ofString "__loader__") 4, val := Value.builtin "builtins.__loader__:shared#opaque" }, { hash := PyData.keyHash P (Str.ofString "__spec__"), key := Value.str (Str.ofString "__spec__") 5, val := Value.builtin "builtins.__spec__#opaque" }, { hash := PyData.keyHash P (Str.ofString "__build_class__"), key := Value.str (Str.ofString "__build_class__") 6, val := Value.builtin "__build_class__" }, { hash := PyData.keyHash P (Str.ofString "__import__"), key := Value.str (Str.ofString "__import__") 7, val := Value.builtin "__import__" }, { hash := PyData.keyHash P (Str.ofString "abs"), key := Value.str (Str.ofString "abs") 8, val := Value.builtin "abs" }, { hash := PyData.keyHash P (Str.ofString "all"), key := Value.str (Str.ofString "all") 9, val := Value.builtin "all" }, { hash := PyData.keyHash P (Str.ofString "any"), key := Value.str (Str.ofString "any") 10, val := Value.builtin "any" }, { hash := PyData.keyHash P (Str.ofString "ascii"), key := Value.str (Str.ofString "ascii") 11, val := Value.builtin "ascii" }, { hash := PyData.keyHash P (Str.ofString "bin"), key := Value.str (Str.ofString "bin") 12, val := Value.builtin "bin" }, { hash := PyData.keyHash P (Str.ofString "breakpoint"), key := Value.str (Str.ofString "breakpoint") 13, val := Value.builtin "breakpoint" }, { hash := PyData.keyHash P (Str.ofString "callable"), key := Value.str (Str.ofString "callable") 14, val := Value.builtin "callable" }, { hash := PyData.keyHash P (Str.ofString "chr"), key := Value.str (Str.ofString "chr") 15, val := Value.builtin "chr" }, { hash := PyData.keyHash P (Str.ofString "compile"), key := Value.str (Str.ofString "compile") 16, val := Value.builtin "compile" }, { hash := PyData.keyHash P (Str.ofString "delattr"), key := Value.str (Str.ofString "delattr") 17, val := Value.builtin "delattr" }, { hash := PyData.keyHash P (Str.ofString "dir"), key := Value.str (Str.ofString "dir") 18, val := Value.builtin "dir" }, { hash := PyData.keyHash P (Str.ofString "divmod"), key := Value.str (Str.ofString "divmod") 19, val := Value.builtin "divmod" }, { hash := PyData.keyHash P (Str.ofString "eval"), key := Value.str (Str.ofString "eval") 20, val := Value.builtin "eval" }, { hash := PyData.keyHash P (Str.ofString "exec"), key := Value.str (Str.ofString "exec") 21, val := Value.builtin "exec" }, { hash := PyData.keyHash P (Str.ofString "format"), key := Value.str (Str.ofString "format") 22, val := Value.builtin "format" }, { hash := PyData.keyHash P (Str.ofString "getattr"), key := Value.str (Str.ofString "getattr") 23, val := Value.builtin "getattr" }, { hash := PyData.keyHash P (Str.ofString "globals"), key := Value.str (Str.ofString "globals") 24, val := Value.builtin "globals" }, { hash := PyData.keyHash P (Str.ofString "hasattr"), key := Value.str (Str.ofString "hasattr") 25, val := Value.builtin "hasattr" }, { hash := PyData.keyHash P (Str.ofString "hash"), key := Value.str (Str.ofString "hash") 26, val := Value.builtin "hash" }, { hash := PyData.keyHash P (Str.ofString "hex"), key := Value.str (Str.ofString "hex") 27, val := Value.builtin "hex" }, { hash := PyData.keyHash P (Str.ofString "id"), key := Value.str (Str.ofString "id") 28, val := Value.builtin "id" }, { hash := PyData.keyHash P (Str.ofString "input"), key := Value.str (Str.ofString "input") 29, val := Value.builtin "input" }, { hash := PyData.keyHash P (Str.ofString "isinstance"), key := Value.str (Str.ofString "isinstance") 30, val := Value.builtin "isinstance" }, { hash := PyData.keyHash P (Str.ofString "issubclass"), key := Value.str (Str.ofString "issubclass") 31, val := Value.builtin "issubclass" }, { hash := PyData.keyHash P (Str.ofString "iter"), key := Value.str (Str.ofString "iter") 32, val := Value.builtin "iter" }, { hash := PyData.keyHash P (Str.ofString "aiter"), key := Value.str (Str.ofString "aiter") 33, val := Value.builtin "aiter" }, { hash := PyData.keyHash P (Str.ofString "len"), key := Value.str (Str.ofString "len") 34, val := Value.builtin "len" }, { hash := PyData.keyHash P (Str.ofString "locals"), key := Value.str (Str.ofString "locals") 35, val := Value.builtin "locals" }, { hash := PyData.keyHash P (Str.ofString "max"), key := Value.str (Str.ofString "max") 36, val := Value.builtin "max" }, { hash := PyData.keyHash P (Str.ofString "min"), key := Value.str (Str.ofString "min") 37, val := Value.builtin "min" }, { hash := PyData.keyHash P (Str.ofString "next"), key := Value.str (Str.ofString "next") 38, val := Value.builtin "next" }, { hash := PyData.keyHash P (Str.ofString "anext"), key := Value.str (Str.ofString "anext") 39, val := Value.builtin "anext" }, { hash := PyData.keyHash P (Str.ofString "oct"), key := Value.str (Str.ofString "oct") 40, val := Value.builtin "oct" }, { hash := PyData.keyHash P (Str.ofString "ord"), key := Value.str (Str.ofString "ord") 41, val := Value.builtin "ord" }, { hash := PyData.keyHash P (Str.ofString "pow"), key := Value.str (Str.ofString "pow") 42, val := Value.builtin "pow" }, { hash := PyData.keyHash P (Str.ofString "print"), key := Value.str (Str.ofString "print") 43, val := Value.builtin "print" }, { hash := PyData.keyHash P (Str.ofString "repr"), key := Value.str (Str.ofString "repr") 44, val := Value.builtin "repr" }, { hash := PyData.keyHash P (Str.ofString "round"), key := Value.str (Str.ofString "round") 45, val := Value.builtin "round" }, { hash := PyData.keyHash P (Str.ofString "setattr"), key := Value.str (Str.ofString "setattr") 46, val := Value.builtin "setattr" }, { hash := PyData.keyHash P (Str.ofString "sorted"), key := Value.str (Str.ofString "sorted") 47, val := Value.builtin "sorted" }, { hash := PyData.keyHash P (Str.ofString "sum"), key := Value.str (Str.ofString "sum") 48, val := Value.builtin "sum" }, { hash := PyData.keyHash P (Str.ofString "vars"), key := Value.str (Str.ofString "vars") 49, val := Value.builtin "vars" }, { hash := PyData.keyHash P (Str.ofString "None"), key := Value.str (Str.ofString "None") 50, val := Value.none }, { hash := PyData.keyHash P (Str.ofString "Ellipsis"), key := Value.str (Str.ofString "Ellipsis") 51, val := Value.ellipsis }, { hash := PyData.keyHash P (Str.ofString "NotImplemented"), key := Value.str (Str.ofString "NotImplemented") 52, val := Value.notImplemented }, { hash := PyData.keyHash P (Str.ofString "False"), key := Value.str (Str.ofString "False") 53, val := Value.bool false }, { hash := PyData.keyHash P (Str.ofString "True"), key := Value.str (Str.ofString "True") 54, val := Value.bool true }, { hash := PyData.keyHash P (Str.ofString "bool"), key := Value.str (Str.ofString "bool") 55, val := Value.type "bool" }, { hash := PyData.keyHash P (Str.ofString "memoryview"), key := Value.str (Str.ofString "memoryview") 56, val := Value.type "memoryview" }, { hash := PyData.keyHash P (Str.ofString "bytearray"), key := Value.str (Str.ofString "bytearray") 57, val := Value.type "bytearray" }, { hash := PyData.keyHash P (Str.ofString "bytes"), key := Value.str (Str.ofString "bytes") 58, val := Value.type "bytes" }, { hash := PyData.keyHash P (Str.ofString "classmethod"), key := Value.str (Str.ofString "classmethod") 59, val := Value.type "classmethod" }, { hash := PyData.keyHash P (Str.ofString "complex"), key := Value.str (Str.ofString "complex") 60, val := Value.type "complex" }, { hash := PyData.keyHash P (Str.ofString "dict"), key := Value.str (Str.ofString "dict") 61, val := Value.type "dict" }, { hash := PyData.keyHash P (Str.ofString "enumerate"), key := Value.str (Str.ofString "enumerate") 62, val := Value.type "enumerate" }, { hash := PyData.keyHash P (Str.ofString "filter"), key := Value.str (Str.ofString "filter") 63, val := Value.type "filter" }, { hash := PyData.keyHash P (Str.ofString "float"), key := Value.str (Str.ofString "float") 64, val := Value.type "float" }, { hash := PyData.keyHash P (Str.ofString "frozenset"), key := Value.str (Str.ofString "frozenset") 65, val := Value.type "frozenset" }, { hash := PyData.keyHash P (Str.ofString "property"), key := Value.str (Str.ofString "property") 66, val := Value.type "property" }, { hash := PyData.keyHash P (Str.ofString "int"), key := Value.str (Str.ofString "int") 67, val := Value.type "int" }, { hash := PyData.keyHash P (Str.ofString "list"), key := Value.str (Str.ofString "list") 68, val := Value.type "list" }, { hash := PyData.keyHash P (Str.ofString "map"), key := Value.str (Str.ofString "map") 69, val := Value.type "map" }, { hash := PyData.keyHash P (Str.ofString "object"), key := Value.str (Str.ofString "object") 70, val := Value.type "object" }, { hash := PyData.keyHash P (Str.ofString "range"), key := Value.str (Str.ofString "range") 71, val := Value.type "range" }, { hash := PyData.keyHash P (Str.ofString "reversed"), key := Value.str (Str.ofString "reversed") 72, val := Value.type "reversed" }, { hash := PyData.keyHash P (Str.ofString "set"), key := Value.str (Str.ofString "set") 73, val := Value.type "set" }, { hash := PyData.keyHash P (Str.ofString "slice"), key := Value.str (Str.ofString "slice") 74, val := Value.type "slice" }, { hash := PyData.keyHash P (Str.ofString "staticmethod"), key := Value.str (Str.ofString "staticmethod") 75, val := Value.type "staticmethod" }, { hash := PyData.keyHash P (Str.ofString "str"), key := Value.str (Str.ofString "str") 76, val := Value.type "str" }, { hash := PyData.keyHash P (Str.ofString "super"), key := Value.str (Str.ofString "super") 77, val := Value.type "super" }, { hash := PyData.keyHash P (Str.ofString "tuple"), key := Value.str (Str.ofString "tuple") 78, val := Value.type "tuple" }, { hash := PyData.keyHash P (Str.ofString "type"), key := Value.str (Str.ofString "type") 79, val := Value.type "type" }, { hash := PyData.keyHash P (Str.ofString "zip"), key := Value.str (Str.ofString "zip") 80, val := Value.type "zip" }, { hash := PyData.keyHash P (Str.ofString "__debug__"), key := Value.str (Str.ofString "__debug__") 81, val := Value.bool true }, { hash := PyData.keyHash P (Str.ofString "BaseException"), key := Value.str (Str.ofString "BaseException") 82, val := Value.type "BaseException" }, { hash := PyData.keyHash P (Str.ofString "BaseExceptionGroup"), key := Value.str (Str.ofString "BaseExceptionGroup") 83, val := Value.type "BaseExceptionGroup" }, { hash := PyData.keyHash P (Str.ofString "Exception"), key := Value.str (Str.ofString "Exception") 84, val := Value.type "Exception" }, { hash := PyData.keyHash P (Str.ofString "GeneratorExit"), key := Value.str (Str.ofString "GeneratorExit") 85, val := Value.type "GeneratorExit" }, { hash := PyData.keyHash P (Str.ofString "KeyboardInterrupt"), key := Value.str (Str.ofString "KeyboardInterrupt") 86, val := Value.type "KeyboardInterrupt" }, { hash := PyData.keyHash P (Str.ofString "SystemExit"), key := Value.str (Str.ofString "SystemExit") 87, val := Value.type "SystemExit" }, { hash := PyData.keyHash P (Str.ofString "ArithmeticError"), key := Value.str (Str.ofString "ArithmeticError") 88, val := Value.type "ArithmeticError" }, { hash := PyData.keyHash P (Str.ofString "AssertionError"), key := Value.str (Str.ofString "AssertionError") 89, val := Value.type "AssertionError" }, { hash := PyData.keyHash P (Str.ofString "AttributeError"), key := Value.str (Str.ofString "AttributeError") 90, val := Value.type "AttributeError" }, { hash := PyData.keyHash P (Str.ofString "BufferError"), key := Value.str (Str.ofString "BufferError") 91, val := Value.type "BufferError" }, { hash := PyData.keyHash P (Str.ofString "EOFError"), key := Value.str (Str.ofString "EOFError") 92, val := Value.type "EOFError" }, { hash := PyData.keyHash P (Str.ofString "ImportError"), key := Value.str (Str.ofString "ImportError") 93, val := Value.type "ImportError" }, { hash := PyData.keyHash P (Str.ofString "LookupError"), key := Value.str (Str.ofString "LookupError") 94, val := Value.type "LookupError" }, { hash := PyData.keyHash P (Str.ofString "MemoryError"), key := Value.str (Str.ofString "MemoryError") 95, val := Value.type "MemoryError" }, { hash := PyData.keyHash P (Str.ofString "NameError"), key := Value.str (Str.ofString "NameError") 96, val := Value.type "NameError" }, { hash := PyData.keyHash P (Str.ofString "OSError"), key := Value.str (Str.ofString "OSError") 97, val := Value.type "OSError" }, { hash := PyData.keyHash P (Str.ofString "ReferenceError"), key := Value.str (Str.ofString "ReferenceError") 98, val := Value.type "ReferenceError" }, { hash := PyData.keyHash P (Str.ofString "RuntimeError"), key := Value.str (Str.ofString "RuntimeError") 99, val := Value.type "RuntimeError" }, { hash := PyData.keyHash P (Str.ofString "StopAsyncIteration"), key := Value.str (Str.ofString "StopAsyncIteration") 100, val := Value.type "StopAsyncIteration" }, { hash := PyData.keyHash P (Str.ofString "StopIteration"), key := Value.str (Str.ofString "StopIteration") 101, val := Value.type "StopIteration" }, { hash := PyData.keyHash P (Str.ofString "SyntaxError"), key := Value.str (Str.ofString "SyntaxError") 102, val := Value.type "SyntaxError" }, { hash := PyData.keyHash P (Str.ofString "SystemError"), key := Value.str (Str.ofString "SystemError") 103, val := Value.type "SystemError" }, { hash := PyData.keyHash P (Str.ofString "TypeError"), key := Value.str (Str.ofString "TypeError") 104, val := Value.type "TypeError" }, { hash := PyData.keyHash P (Str.ofString "ValueError"), key := Value.str (Str.ofString "ValueError") 105, val := Value.type "ValueError" }, { hash := PyData.keyHash P (Str.ofString "Warning"), key := Value.str (Str.ofString "Warning") 106, val := Value.type "Warning" }, { hash := PyData.keyHash P (Str.ofString "FloatingPointError"), key := Value.str (Str.ofString "FloatingPointError") 107, val := Value.type "FloatingPointError" }, { hash := PyData.keyHash P (Str.ofString "OverflowError"), key := Value.str (Str.ofString "OverflowError") 108, val := Value.type "OverflowError" }, { hash := PyData.keyHash P (Str.ofString "ZeroDivisionError"), key := Value.str (Str.ofString "ZeroDivisionError") 109, val := Value.type "ZeroDivisionError" }, { hash := PyData.keyHash P (Str.ofString "BytesWarning"), key := Value.str (Str.ofString "BytesWarning") 110, val := Value.type "BytesWarning" }, { hash := PyData.keyHash P (Str.ofString "DeprecationWarning"), key := Value.str (Str.ofString "DeprecationWarning") 111, val := Value.type "DeprecationWarning" }, { hash := PyData.keyHash P (Str.ofString "EncodingWarning"), key := Value.str (Str.ofString "EncodingWarning") 112, val := Value.type "EncodingWarning" }, { hash := PyData.keyHash P (Str.ofString "FutureWarning"), key := Value.str (Str.ofString "FutureWarning") 113, val := Value.type "FutureWarning" }, { hash := PyData.keyHash P (Str.ofString "ImportWarning"), key := Value.str (Str.ofString "ImportWarning") 114, val := Value.type "ImportWarning" }, { hash := PyData.keyHash P (Str.ofString "PendingDeprecationWarning"), key := Value.str (Str.ofString "PendingDeprecationWarning") 115, val := Value.type "PendingDeprecationWarning" }, { hash := PyData.keyHash P (Str.ofString "ResourceWarning"), key := Value.str (Str.ofString "ResourceWarning") 116, val := Value.type "ResourceWarning" }, { hash := PyData.keyHash P (Str.ofString "RuntimeWarning"), key := Value.str (Str.ofString "RuntimeWarning") 117, val := Value.type "RuntimeWarning" }, { hash := PyData.keyHash P (Str.ofString "SyntaxWarning"), key := Value.str (Str.ofString "SyntaxWarning") 118, val := Value.type "SyntaxWarning" }, { hash := PyData.keyHash P (Str.ofString "UnicodeWarning"), key := Value.str (Str.ofString "UnicodeWarning") 119, val := Value.type "UnicodeWarning" }, { hash := PyData.keyHash P (Str.ofString "UserWarning"), key := Value.str (Str.ofString "UserWarning") 120, val := Value.type "UserWarning" }, { hash := PyData.keyHash P (Str.ofString "BlockingIOError"), key := Value.str (Str.ofString "BlockingIOError") 121, val := Value.type "BlockingIOError" }, { hash := PyData.keyHash P (Str.ofString "ChildProcessError"), key := Value.str (Str.ofString "ChildProcessError") 122, val := Value.type "ChildProcessError" }, { hash := PyData.keyHash P (Str.ofString "ConnectionError"), key := Value.str (Str.ofString "ConnectionError") 123, val := Value.type "ConnectionError" }, { hash := PyData.keyHash P (Str.ofString "FileExistsError"), key := Value.str (Str.ofString "FileExistsError") 124, val := Value.type "FileExistsError" }, { hash := PyData.keyHash P (Str.ofString "FileNotFoundError"), key := Value.str (Str.ofString "FileNotFoundError") 125, val := Value.type "FileNotFoundError" }, { hash := PyData.keyHash P (Str.ofString "InterruptedError"), key := Value.str (Str.ofString "InterruptedError") 126, val := Value.type "InterruptedError" }, { hash := PyData.keyHash P (Str.ofString "IsADirectoryError"), key := Value.str (Str.ofString "IsADirectoryError") 127, val := Value.type "IsADirectoryError" }, { hash := PyData.keyHash P (Str.ofString "NotADirectoryError"), key := Value.str (Str.ofString "NotADirectoryError") 128, val := Value.type "NotADirectoryError" }, { hash := PyData.keyHash P (Str.ofString "PermissionError"), key := Value.str (Str.ofString "PermissionError") 129, val := Value.type "PermissionError" }, { hash := PyData.keyHash P (Str.ofString "ProcessLookupError"), key := Value.str (Str.ofString "ProcessLookupError") 130, val := Value.type "ProcessLookupError" }, { hash := PyData.keyHash P (Str.ofString "TimeoutError"), key := Value.str (Str.ofString "TimeoutError") 131, val := Value.type "TimeoutError" }, { hash := PyData.keyHash P (Str.ofString "IndentationError"), key := Value.str (Str.ofString "IndentationError") 132, val := Value.type "IndentationError" }, { hash := PyData.keyHash P (Str.ofString "_IncompleteInputError"), key := Value.str (Str.ofString "_IncompleteInputError") 133, val := Value.type "_IncompleteInputError" }, { hash := PyData.keyHash P (Str.ofString "IndexError"), key := Value.str (Str.ofString "IndexError") 134, val := Value.type "IndexError" }, { hash := PyData.keyHash P (Str.ofString "KeyError"), key := Value.str (Str.ofString "KeyError") 135, val := Value.type "KeyError" }, { hash := PyData.keyHash P (Str.ofString "ModuleNotFoundError"), key := Value.str (Str.ofString "ModuleNotFoundError") 136, val := Value.type "ModuleNotFoundError" }, { hash := PyData.keyHash P (Str.ofString "NotImplementedError"), key := Value.str (Str.ofString "NotImplementedError") 137, val := Value.type "NotImplementedError" }, { hash := PyData.keyHash P (Str.ofString "PythonFinalizationError"), key := Value.str (Str.ofString "PythonFinalizationError") 138, val := Value.type "PythonFinalizationError" }, { hash := PyData.keyHash P (Str.ofString "RecursionError"), key := Value.str (Str.ofString "RecursionError") 139, val := Value.type "RecursionError" }, { hash := PyData.keyHash P (Str.ofString "UnboundLocalError"), key := Value.str (Str.ofString "UnboundLocalError") 140, val := Value.type "UnboundLocalError" }, { hash := PyData.keyHash P (Str.ofString "UnicodeError"), key := Value.str (Str.ofString "UnicodeError") 141, val := Value.type "UnicodeError" }, { hash := PyData.keyHash P (Str.ofString "BrokenPipeError"), key := Value.str (Str.ofString "BrokenPipeError") 142, val := Value.type "BrokenPipeError" }, { hash := PyData.keyHash P (Str.ofString "ConnectionAbortedError"), key := Value.str (Str.ofString "ConnectionAbortedError") 143, val := Value.type "ConnectionAbortedError" }, { hash := PyData.keyHash P (Str.ofString "ConnectionRefusedError"), key := Value.str (Str.ofString "ConnectionRefusedError") 144, val := Value.type "ConnectionRefusedError" }, { hash := PyData.keyHash P (Str.ofString "ConnectionResetError"), key := Value.str (Str.ofString "ConnectionResetError") 145, val := Value.type "ConnectionResetError" }, { hash := PyData.keyHash P (Str.ofString "TabError"), key := Value.str (Str.ofString "TabError") 146, val := Value.type "TabError" }, { hash := PyData.keyHash P (Str.ofString "UnicodeDecodeError"), key := Value.str (Str.ofString "UnicodeDecodeError") 147, val := Value.type "UnicodeDecodeError" }, { hash := PyData.keyHash P (Str.ofString "UnicodeEncodeError"), key := Value.str (Str.ofString "UnicodeEncodeError") 148, val := Value.type "UnicodeEncodeError" }, { hash := PyData.keyHash P (Str.ofString "UnicodeTranslateError"), key := Value.str (Str.ofString "UnicodeTranslateError") 149, val := Value.type "UnicodeTranslateError" }, { hash := PyData.keyHash P (Str.ofString "ExceptionGroup"), key := Value.str (Str.ofString "ExceptionGroup") 150, val := Value.type "ExceptionGroup" }, { hash := PyData.keyHash P (Str.ofString "EnvironmentError"), key := Value.str (Str.ofString "EnvironmentError") 151, val := Value.type "OSError" }, { hash := PyData.keyHash P (Str.ofString "IOError"), key := Value.str (Str.ofString "IOError") 152, val := Value.type "OSError" }, { hash := PyData.keyHash P (Str.ofString "open"), key := Value.str (Str.ofString "open") 153, val := Value.builtin "open" }, { hash := PyData.keyHash P (Str.ofString "quit"), key := Value.str (Str.ofString "quit") 154, val := Value.builtin "builtins.quit#opaque" }, { hash := PyData.keyHash P (Str.ofString "exit"), key := Value.str (Str.ofString "exit") 155, val := Value.builtin "builtins.exit#opaque" }, { hash := PyData.keyHash P (Str.ofString "copyright"), key := Value.str (Str.ofString "copyright") 156, val := Value.builtin "builtins.copyright#opaque" }, { hash := PyData.keyHash P (Str.ofString "credits"), key := Value.str (Str.ofString "credits") 157, val := Value.builtin "builtins.credits#opaque" }, { hash := PyData.keyHash P (Str.ofString "license"), key := Value.str (Str.ofString "license") 158, val := Value.builtin "builtins.license#opaque" }, { hash := PyData.keyHash P (Str.ofString "help"), key := Value.str (Str.ofString "help") 159, val := Value.builtin "builtins.help#opaque" }] 159 }
noncomputable def o1_a : Params → Obj := fun P => { cls := Value.type "dict", data := Data.dict #[{ hash := PyData.keyHash P (Str.ofString "builtins"), key := Value.str (Str.ofString "builtins") 162, val := Value.ref 4 }, { hash := PyData.keyHash P (Str.ofString "__main__"), key := Value.str (Str.ofString "__main__") 163, val := Value.ref 5 }] 2 }
noncomputable def o2_a : Params → Obj := fun P => { cls := Value.none, data := Data.dict #[] }
noncomputable def o3_a : Params → Obj := fun P => { cls := Value.type "dict", data := Data.dict #[{ hash := PyData.keyHash P (Str.ofString "__name__"), key := Value.str (Str.ofString "__name__") 165, val := Value.str (Str.ofString "__main__") 164 }, { hash := PyData.keyHash P (Str.ofString "__doc__"), key := Value.str (Str.ofString "__doc__") 166, val := Value.none }, { hash := PyData.keyHash P (Str.ofString "__package__"), key := Value.str (Str.ofString "__package__") 167, val := Value.none }, { hash := PyData.keyHash P (Str.ofString "__loader__"), key := Value.str (Str.ofString "__loader__") 168, val := Value.builtin "__main__.__loader__#opaque" }, { hash := PyData.keyHash P (Str.ofString "__spec__"), key := Value.str (Str.ofString "__spec__") 169, val := Value.none }, { hash := PyData.keyHash P (Str.ofString "__annotations__"), key := Value.str (Str.ofString "__annotations__") 170, val := Value.ref 6 }, { hash := PyData.keyHash P (Str.ofString "__builtins__"), key := Value.str (Str.ofString "__builtins__") 171, val := Value.ref 4 }, { hash := PyData.keyHash P (Str.ofString "__file__"), key := Value.str (Str.ofString "__file__") 173, val := Value.str (Str.ofString "/claim/cut.py") 172 }, { hash := PyData.keyHash P (Str.ofString "__cached__"), key := Value.str (Str.ofString "__cached__") 174, val := Value.none }] 9 }
noncomputable def o4_a : Params → Obj := fun P => { cls := Value.type "module", dict := some 0 }
noncomputable def o5_a : Params → Obj := fun P => { cls := Value.type "module", dict := some 3 }
noncomputable def o6_a : Params → Obj := fun P => { cls := Value.type "dict", data := Data.dict #[] }
noncomputable def o7_a : Params → Obj := fun P => { cls := Value.type "tuple", data := Data.seq #[] }
noncomputable def o8_a : Params → Obj := fun P => { cls := Value.none, data := Data.fields #[] }
noncomputable def o9_a : Params → Obj := fun P => { cls := Value.type "code", data := Data.fields #[Value.str (Str.ofString "<module>") 176, Value.str (Str.ofString "<module>") 177, Value.str (Str.ofString "/claim/cut.py") 178, Value.int 1 0, Value.int 0 0, Value.int 0 0, Value.int 0 0, Value.int 0 0, Value.ref 7, Value.bool false, Value.int 175 0, Value.ref 8, Value.none, Value.none, Value.none, Value.none, Value.int 179 0, Value.int 1 0, Value.str (Str.ofString "/claim/cut.py") 180] }
noncomputable def o10_a : Params → Obj := fun P => { cls := Value.type "frame", slots := #[some (Value.ref 9), some (Value.ref 3), some (Value.ref 3), none, some (Value.str (Str.ofString "__main__") 164), none, some (Value.ref 0)] }
noncomputable def o11_a : Params → Obj := fun P => { cls := Value.type "tuple", data := Data.seq #[] }
noncomputable def o12_a : Params → Obj := fun P => { cls := Value.none, data := Data.fields #[] }
noncomputable def o13_a : Params → Obj := fun P => { cls := Value.type "code", data := Data.fields #[Value.str (Str.ofString "<module>") 182, Value.str (Str.ofString "<module>") 183, Value.str (Str.ofString "/claim/cut.py") 184, Value.int 1 0, Value.int 0 0, Value.int 0 0, Value.int 0 0, Value.int 0 0, Value.ref 11, Value.bool false, Value.int 181 0, Value.ref 12, Value.none, Value.none, Value.none, Value.none, Value.int 185 0, Value.int 1 0, Value.str (Str.ofString "/claim/cut.py") 186] }
noncomputable def o14_a : Params → Obj := fun P => { cls := Value.type "frame", slots := #[some (Value.ref 13), some (Value.ref 3), some (Value.ref 3), none, some (Value.str (Str.ofString "__main__") 164), none, some (Value.ref 0)] }
noncomputable def Ta : Params → BT := fun P => (.node (o0_a P) (.node (o1_a P) (.node (o3_a P) (.node (o7_a P) .nil .nil) (.node (o11_a P) .nil .nil)) (.node (o5_a P) (.node (o9_a P) .nil .nil) (.node (o13_a P) .nil .nil))) (.node (o2_a P) (.node (o4_a P) (.node (o8_a P) .nil .nil) (.node (o12_a P) .nil .nil)) (.node (o6_a P) (.node (o10_a P) .nil .nil) (.node (o14_a P) .nil .nil))))
noncomputable def Ca (P : Params) (os : OsState) : SharedT := ⟨Ta P, nat_lit 15, (boot_heap P).life, #[], boot_drawn, nat_lit 187, os⟩
abbrev posa : Pos := { line := 0, col := 0, endLine := 0, endCol := 0 }
noncomputable def o3_2 : Params → Obj := fun P => { cls := Value.type "dict", data := Data.dict #[{ hash := PyData.keyHash P (Str.ofString "__name__"), key := Value.str (Str.ofString "__name__") 165, val := Value.str (Str.ofString "kyber_py.polynomials.polynomials_generic") 194 }, { hash := PyData.keyHash P (Str.ofString "__doc__"), key := Value.str (Str.ofString "__doc__") 166, val := Value.none }, { hash := PyData.keyHash P (Str.ofString "__package__"), key := Value.str (Str.ofString "__package__") 167, val := Value.none }, { hash := PyData.keyHash P (Str.ofString "__loader__"), key := Value.str (Str.ofString "__loader__") 168, val := Value.builtin "__main__.__loader__#opaque" }, { hash := PyData.keyHash P (Str.ofString "__spec__"), key := Value.str (Str.ofString "__spec__") 169, val := Value.none }, { hash := PyData.keyHash P (Str.ofString "__annotations__"), key := Value.str (Str.ofString "__annotations__") 170, val := Value.ref 6 }, { hash := PyData.keyHash P (Str.ofString "__builtins__"), key := Value.str (Str.ofString "__builtins__") 171, val := Value.ref 4 }, { hash := PyData.keyHash P (Str.ofString "__file__"), key := Value.str (Str.ofString "__file__") 173, val := Value.str (Str.ofString "/claim/cut.py") 172 }, { hash := PyData.keyHash P (Str.ofString "__cached__"), key := Value.str (Str.ofString "__cached__") 174, val := Value.none }, { hash := PyData.keyHash P (Str.ofString "_wall"), key := Value.str (Str.ofString "_wall") 193, val := Value.ref 21 }, { hash := PyData.keyHash P (Str.ofString "GenericPolynomialRing"), key := Value.str (Str.ofString "GenericPolynomialRing") 248, val := Value.ref 59 }] 11 }
noncomputable def o12_2 : Params → Obj := fun P => { cls := Value.none, data := Data.fields #[Value.int 1 0, Value.int 0 0, Value.ref 20, Value.int 5 0, Value.int 0 0, Value.ref 27] }
noncomputable def o15_2 : Params → Obj := fun P => { cls := Value.type "tuple", data := Data.seq #[] }
noncomputable def o16_2 : Params → Obj := fun P => { cls := Value.none, data := Data.fields #[] }
noncomputable def o17_2 : Params → Obj := fun P => { cls := Value.type "tuple", data := Data.seq #[Value.str (Str.ofString "k") 190] }
noncomputable def o18_2 : Params → Obj := fun P => { cls := Value.type "tuple", data := Data.seq #[] }
noncomputable def o19_2 : Params → Obj := fun P => { cls := Value.none, data := Data.func { name := Str.ofString "_wall", qualname := Str.ofString "_wall", params := P_0, body := FuncBody.stmts B_0, scope := S_0, globals := 0, closure := [], defaults := Value.none, kwdefaults := Value.none } }
noncomputable def o20_2 : Params → Obj := fun P => { cls := Value.type "code", data := Data.fields #[Value.str (Str.ofString "_wall") 187, Value.str (Str.ofString "_wall") 188, Value.str (Str.ofString "/claim/cut.py") 189, Value.int 1 0, Value.int 1 0, Value.int 0 0, Value.int 0 0, Value.int 3 0, Value.ref 15, Value.bool true, Value.int 181 0, Value.ref 16, Value.none, Value.ref 17, Value.ref 18, Value.ref 19, Value.int 191 0, Value.int 1 0, Value.str (Str.ofString "/claim/cut.py") 192] }
noncomputable def o21_2 : Params → Obj := fun P => { cls := Value.type "function", data := Data.func { name := Str.ofString "_wall", qualname := Str.ofString "_wall", params := P_0, body := FuncBody.stmts B_0, scope := S_0, globals := 3, closure := [], defaults := Value.none, kwdefaults := Value.none, pyModule := Value.str (Str.ofString "__main__") 164, code := Value.ref 20 } }
noncomputable def o22_2 : Params → Obj := fun P => { cls := Value.type "tuple", data := Data.seq #[] }
noncomputable def o23_2 : Params → Obj := fun P => { cls := Value.type "builtin_function_or_method", data := Data.fields #[Value.builtin "type.__prepare__", Value.type "type"] }
noncomputable def o24_2 : Params → Obj := fun P => { cls := Value.type "dict", data := Data.dict #[{ hash := PyData.keyHash P (Str.ofString "__module__"), key := Value.str (Str.ofString "__module__") 203, val := Value.str (Str.ofString "kyber_py.polynomials.polynomials_generic") 194 }, { hash := PyData.keyHash P (Str.ofString "__qualname__"), key := Value.str (Str.ofString "__qualname__") 205, val := Value.str (Str.ofString "GenericPolynomialRing") 204 }, { hash := PyData.keyHash P (Str.ofString "__firstlineno__"), key := Value.str (Str.ofString "__firstlineno__") 207, val := Value.int 5 206 }, { hash := PyData.keyHash P (Str.ofString "__init__"), key := Value.str (Str.ofString "__init__") 216, val := Value.ref 35 }, { hash := PyData.keyHash P (Str.ofString "zero"), key := Value.str (Str.ofString "zero") 223, val := Value.ref 42 }, { hash := PyData.keyHash P (Str.ofString "gen"), key := Value.str (Str.ofString "gen") 230, val := Value.ref 49 }, { hash := PyData.keyHash P (Str.ofString "__call__"), key := Value.str (Str.ofString "__call__") 238, val := Value.ref 56 }, { hash := PyData.keyHash P (Str.ofString "__static_attributes__"), key := Value.str (Str.ofString "__static_attributes__") 241, val := Value.ref 57 }] 8 }
noncomputable def o25_2 : Params → Obj := fun P => { cls := Value.type "tuple", data := Data.seq #[] }
noncomputable def o26_2 : Params → Obj := fun P => { cls := Value.none, data := Data.fields #[Value.int 7 0, Value.int 4 0, Value.ref 34, Value.int 11 0, Value.int 4 0, Value.ref 41, Value.int 14 0, Value.int 4 0, Value.ref 48, Value.int 17 0, Value.int 4 0, Value.ref 55] }
noncomputable def o27_2 : Params → Obj := fun P => { cls := Value.type "code", data := Data.fields #[Value.str (Str.ofString "GenericPolynomialRing") 198, Value.str (Str.ofString "GenericPolynomialRing") 199, Value.str (Str.ofString "/claim/cut.py") 200, Value.int 5 0, Value.int 0 0, Value.int 0 0, Value.int 0 0, Value.int 0 0, Value.ref 25, Value.bool false, Value.int 181 0, Value.ref 26, Value.none, Value.none, Value.none, Value.none, Value.int 201 0, Value.int 5 0, Value.str (Str.ofString "/claim/cut.py") 202] }
noncomputable def o28_2 : Params → Obj := fun P => { cls := Value.type "frame", slots := #[some (Value.ref 27), some (Value.ref 3), some (Value.ref 24), none, some (Value.str (Str.ofString "kyber_py.polynomials.polynomials_generic") 194), none, some (Value.ref 0)] }
noncomputable def o29_2 : Params → Obj := fun P => { cls := Value.type "tuple", data := Data.seq #[] }
noncomputable def o30_2 : Params → Obj := fun P => { cls := Value.none, data := Data.fields #[] }
noncomputable def o31_2 : Params → Obj := fun P => { cls := Value.type "tuple", data := Data.seq #[Value.str (Str.ofString "self") 211, Value.str (Str.ofString "q") 212, Value.str (Str.ofString "n") 213] }
noncomputable def o32_2 : Params → Obj := fun P => { cls := Value.type "tuple", data := Data.seq #[] }
noncomputable def o33_2 : Params → Obj := fun P => { cls := Value.none, data := Data.func { name := Str.ofString "__init__", qualname := Str.ofString "GenericPolynomialRing.__init__", params := P_2_0, body := FuncBody.stmts B_2_0, scope := S_2_0, globals := 0, closure := [], defaults := Value.none, kwdefaults := Value.none } }
noncomputable def o34_2 : Params → Obj := fun P => { cls := Value.type "code", data := Data.fields #[Value.str (Str.ofString "__init__") 208, Value.str (Str.ofString "GenericPolynomialRing.__init__") 209, Value.str (Str.ofString "/claim/cut.py") 210, Value.int 7 0, Value.int 3 0, Value.int 0 0, Value.int 0 0, Value.int 3 0, Value.ref 29, Value.bool true, Value.int 181 0, Value.ref 30, Value.none, Value.ref 31, Value.ref 32, Value.ref 33, Value.int 214 0, Value.int 7 0, Value.str (Str.ofString "/claim/cut.py") 215] }
noncomputable def o35_2 : Params → Obj := fun P => { cls := Value.type "function", data := Data.func { name := Str.ofString "__init__", qualname := Str.ofString "GenericPolynomialRing.__init__", params := P_2_0, body := FuncBody.stmts B_2_0, scope := S_2_0, globals := 3, closure := [], defaults := Value.none, kwdefaults := Value.none, pyModule := Value.str (Str.ofString "kyber_py.polynomials.polynomials_generic") 194, code := Value.ref 34 } }
noncomputable def o36_2 : Params → Obj := fun P => { cls := Value.type "tuple", data := Data.seq #[] }
noncomputable def o37_2 : Params → Obj := fun P => { cls := Value.none, data := Data.fields #[] }
noncomputable def o38_2 : Params → Obj := fun P => { cls := Value.type "tuple", data := Data.seq #[Value.str (Str.ofString "self") 220] }
noncomputable def o39_2 : Params → Obj := fun P => { cls := Value.type "tuple", data := Data.seq #[] }
noncomputable def o40_2 : Params → Obj := fun P => { cls := Value.none, data := Data.func { name := Str.ofString "zero", qualname := Str.ofString "GenericPolynomialRing.zero", params := P_2_1, body := FuncBody.stmts B_2_1, scope := S_2_1, globals := 0, closure := [], defaults := Value.none, kwdefaults := Value.none } }
noncomputable def o41_2 : Params → Obj := fun P => { cls := Value.type "code", data := Data.fields #[Value.str (Str.ofString "zero") 217, Value.str (Str.ofString "GenericPolynomialRing.zero") 218, Value.str (Str.ofString "/claim/cut.py") 219, Value.int 11 0, Value.int 1 0, Value.int 0 0, Value.int 0 0, Value.int 3 0, Value.ref 36, Value.bool true, Value.int 181 0, Value.ref 37, Value.none, Value.ref 38, Value.ref 39, Value.ref 40, Value.int 221 0, Value.int 11 0, Value.str (Str.ofString "/claim/cut.py") 222] }
noncomputable def o42_2 : Params → Obj := fun P => { cls := Value.type "function", data := Data.func { name := Str.ofString "zero", qualname := Str.ofString "GenericPolynomialRing.zero", params := P_2_1, body := FuncBody.stmts B_2_1, scope := S_2_1, globals := 3, closure := [], defaults := Value.none, kwdefaults := Value.none, pyModule := Value.str (Str.ofString "kyber_py.polynomials.polynomials_generic") 194, code := Value.ref 41 } }
noncomputable def o43_2 : Params → Obj := fun P => { cls := Value.type "tuple", data := Data.seq #[] }
noncomputable def o44_2 : Params → Obj := fun P => { cls := Value.none, data := Data.fields #[] }
noncomputable def o45_2 : Params → Obj := fun P => { cls := Value.type "tuple", data := Data.seq #[Value.str (Str.ofString "self") 227] }
noncomputable def o46_2 : Params → Obj := fun P => { cls := Value.type "tuple", data := Data.seq #[] }
noncomputable def o47_2 : Params → Obj := fun P => { cls := Value.none, data := Data.func { name := Str.ofString "gen", qualname := Str.ofString "GenericPolynomialRing.gen", params := P_2_2, body := FuncBody.stmts B_2_2, scope := S_2_2, globals := 0, closure := [], defaults := Value.none, kwdefaults := Value.none } }
noncomputable def o48_2 : Params → Obj := fun P => { cls := Value.type "code", data := Data.fields #[Value.str (Str.ofString "gen") 224, Value.str (Str.ofString "GenericPolynomialRing.gen") 225, Value.str (Str.ofString "/claim/cut.py") 226, Value.int 14 0, Value.int 1 0, Value.int 0 0, Value.int 0 0, Value.int 3 0, Value.ref 43, Value.bool true, Value.int 181 0, Value.ref 44, Value.none, Value.ref 45, Value.ref 46, Value.ref 47, Value.int 228 0, Value.int 14 0, Value.str (Str.ofString "/claim/cut.py") 229] }
noncomputable def o49_2 : Params → Obj := fun P => { cls := Value.type "function", data := Data.func { name := Str.ofString "gen", qualname := Str.ofString "GenericPolynomialRing.gen", params := P_2_2, body := FuncBody.stmts B_2_2, scope := S_2_2, globals := 3, closure := [], defaults := Value.none, kwdefaults := Value.none, pyModule := Value.str (Str.ofString "kyber_py.polynomials.polynomials_generic") 194, code := Value.ref 48 } }
noncomputable def o50_2 : Params → Obj := fun P => { cls := Value.type "tuple", data := Data.seq #[] }
noncomputable def o51_2 : Params → Obj := fun P => { cls := Value.none, data := Data.fields #[] }
noncomputable def o52_2 : Params → Obj := fun P => { cls := Value.type "tuple", data := Data.seq #[Value.str (Str.ofString "self") 234, Value.str (Str.ofString "coefficients") 235] }
noncomputable def o53_2 : Params → Obj := fun P => { cls := Value.type "tuple", data := Data.seq #[] }
noncomputable def o54_2 : Params → Obj := fun P => { cls := Value.none, data := Data.func { name := Str.ofString "__call__", qualname := Str.ofString "GenericPolynomialRing.__call__", params := P_2_3, body := FuncBody.stmts B_2_3, scope := S_2_3, globals := 0, closure := [], defaults := Value.none, kwdefaults := Value.none } }
noncomputable def o55_2 : Params → Obj := fun P => { cls := Value.type "code", data := Data.fields #[Value.str (Str.ofString "__call__") 231, Value.str (Str.ofString "GenericPolynomialRing.__call__") 232, Value.str (Str.ofString "/claim/cut.py") 233, Value.int 17 0, Value.int 2 0, Value.int 0 0, Value.int 0 0, Value.int 3 0, Value.ref 50, Value.bool true, Value.int 181 0, Value.ref 51, Value.none, Value.ref 52, Value.ref 53, Value.ref 54, Value.int 236 0, Value.int 17 0, Value.str (Str.ofString "/claim/cut.py") 237] }
noncomputable def o56_2 : Params → Obj := fun P => { cls := Value.type "function", data := Data.func { name := Str.ofString "__call__", qualname := Str.ofString "GenericPolynomialRing.__call__", params := P_2_3, body := FuncBody.stmts B_2_3, scope := S_2_3, globals := 3, closure := [], defaults := Value.none, kwdefaults := Value.none, pyModule := Value.str (Str.ofString "kyber_py.polynomials.polynomials_generic") 194, code := Value.ref 55 } }
noncomputable def o57_2 : Params → Obj := fun P => { cls := Value.type "tuple", data := Data.seq #[Value.str (Str.ofString "n") 239, Value.str (Str.ofString "q") 240] }
noncomputable def o58_2 : Params → Obj := fun P => { cls := Value.type "dict", data := Data.dict #[{ hash := PyData.keyHash P (Str.ofString "__module__"), key := Value.str (Str.ofString "__module__") 203, val := Value.str (Str.ofString "kyber_py.polynomials.polynomials_generic") 194 }, { hash := PyData.keyHash P (Str.ofString "__firstlineno__"), key := Value.str (Str.ofString "__firstlineno__") 207, val := Value.int 5 206 }, { hash := PyData.keyHash P (Str.ofString "__init__"), key := Value.str (Str.ofString "__init__") 216, val := Value.ref 35 }, { hash := PyData.keyHash P (Str.ofString "zero"), key := Value.str (Str.ofString "zero") 223, val := Value.ref 42 }, { hash := PyData.keyHash P (Str.ofString "gen"), key := Value.str (Str.ofString "gen") 230, val := Value.ref 49 }, { hash := PyData.keyHash P (Str.ofString "__call__"), key := Value.str (Str.ofString "__call__") 238, val := Value.ref 56 }, { hash := PyData.keyHash P (Str.ofString "__static_attributes__"), key := Value.str (Str.ofString "__static_attributes__") 241, val := Value.ref 57 }, { hash := PyData.keyHash P (Str.ofString "__dict__"), key := Value.str (Str.ofString "__dict__") 243, val := Value.ref 60 }, { hash := PyData.keyHash P (Str.ofString "__weakref__"), key := Value.str (Str.ofString "__weakref__") 245, val := Value.ref 61 }, { hash := PyData.keyHash P (Str.ofString "__doc__"), key := Value.str (Str.ofString "__doc__") 246, val := Value.none }] 4 }
noncomputable def o59_2 : Params → Obj := fun P => { cls := Value.type "type", data := Data.cls { name := Str.ofString "GenericPolynomialRing", bases := [Value.type "object"], mro := [Value.ref 59, Value.type "object"], ns := 58, qualname := Str.ofString "GenericPolynomialRing" }, slots := #[none, none, some (Value.str (Str.ofString "GenericPolynomialRing") 196), some (Value.str (Str.ofString "GenericPolynomialRing") 204), some (Value.builtin "object.__new__"), some (Value.bool true)] }
noncomputable def o60_2 : Params → Obj := fun P => { cls := Value.type "getset_descriptor", data := Data.fields #[Value.str (Str.ofString "__dict__") 242, Value.ref 59, Value.builtin "function.__dict__", Value.builtin "function.__dict__#set"] }
noncomputable def o61_2 : Params → Obj := fun P => { cls := Value.type "getset_descriptor", data := Data.fields #[Value.str (Str.ofString "__weakref__") 244, Value.ref 59, Value.builtin "ExceptionGroup.__weakref__", Value.none] }
noncomputable def o62_2 : Params → Obj := fun P => { cls := Value.type "super", data := Data.fields #[Value.ref 59, Value.ref 59, Value.ref 59] }
noncomputable def o63_2 : Params → Obj := fun P => { cls := Value.type "builtin_function_or_method", data := Data.fields #[Value.builtin "object.__init_subclass__", Value.ref 59] }
noncomputable def T2 : Params → BT := fun P => (.node (o0_a P) (.node (o1_a P) (.node (o3_2 P) (.node (o7_a P) (.node (o15_2 P) (.node (o31_2 P) (.node (o63_2 P) .nil .nil) .nil) (.node (o47_2 P) .nil .nil)) (.node (o23_2 P) (.node (o39_2 P) .nil .nil) (.node (o55_2 P) .nil .nil))) (.node (o11_a P) (.node (o19_2 P) (.node (o35_2 P) .nil .nil) (.node (o51_2 P) .nil .nil)) (.node (o27_2 P) (.node (o43_2 P) .nil .nil) (.node (o59_2 P) .nil .nil)))) (.node (o5_a P) (.node (o9_a P) (.node (o17_2 P) (.node (o33_2 P) .nil .nil) (.node (o49_2 P) .nil .nil)) (.node (o25_2 P) (.node (o41_2 P) .nil .nil) (.node (o57_2 P) .nil .nil))) (.node (o13_a P) (.node (o21_2 P) (.node (o37_2 P) .nil .nil) (.node (o53_2 P) .nil .nil)) (.node (o29_2 P) (.node (o45_2 P) .nil .nil) (.node (o61_2 P) .nil .nil))))) (.node (o2_a P) (.node (o4_a P) (.node (o8_a P) (.node (o16_2 P) (.node (o32_2 P) .nil .nil) (.node (o48_2 P) .nil .nil)) (.node (o24_2 P) (.node (o40_2 P) .nil .nil) (.node (o56_2 P) .nil .nil))) (.node (o12_2 P) (.node (o20_2 P) (.node (o36_2 P) .nil .nil) (.node (o52_2 P) .nil .nil)) (.node (o28_2 P) (.node (o44_2 P) .nil .nil) (.node (o60_2 P) .nil .nil)))) (.node (o6_a P) (.node (o10_a P) (.node (o18_2 P) (.node (o34_2 P) .nil .nil) (.node (o50_2 P) .nil .nil)) (.node (o26_2 P) (.node (o42_2 P) .nil .nil) (.node (o58_2 P) .nil .nil))) (.node (o14_a P) (.node (o22_2 P) (.node (o38_2 P) .nil .nil) (.node (o54_2 P) .nil .nil)) (.node (o30_2 P) (.node (o46_2 P) .nil .nil) (.node (o62_2 P) .nil .nil))))))
noncomputable def C2 (P : Params) (os : OsState) : SharedT := ⟨T2 P, nat_lit 64, (boot_heap P).life, #[], boot_drawn, nat_lit 249, os⟩
abbrev pos2 : Pos := { line := 5, col := 0, endLine := 22, endCol := 52 }
noncomputable def o3_4 : Params → Obj := fun P => { cls := Value.type "dict", data := Data.dict #[{ hash := PyData.keyHash P (Str.ofString "__name__"), key := Value.str (Str.ofString "__name__") 165, val := Value.str (Str.ofString "kyber_py.polynomials.polynomials") 448 }, { hash := PyData.keyHash P (Str.ofString "__doc__"), key := Value.str (Str.ofString "__doc__") 166, val := Value.none }, { hash := PyData.keyHash P (Str.ofString "__package__"), key := Value.str (Str.ofString "__package__") 167, val := Value.none }, { hash := PyData.keyHash P (Str.ofString "__loader__"), key := Value.str (Str.ofString "__loader__") 168, val := Value.builtin "__main__.__loader__#opaque" }, { hash := PyData.keyHash P (Str.ofString "__spec__"), key := Value.str (Str.ofString "__spec__") 169, val := Value.none }, { hash := PyData.keyHash P (Str.ofString "__annotations__"), key := Value.str (Str.ofString "__annotations__") 170, val := Value.ref 6 }, { hash := PyData.keyHash P (Str.ofString "__builtins__"), key := Value.str (Str.ofString "__builtins__") 171, val := Value.ref 4 }, { hash := PyData.keyHash P (Str.ofString "__file__"), key := Value.str (Str.ofString "__file__") 173, val := Value.str (Str.ofString "/claim/cut.py") 172 }, { hash := PyData.keyHash P (Str.ofString "__cached__"), key := Value.str (Str.ofString "__cached__") 174, val := Value.none }, { hash := PyData.keyHash P (Str.ofString "_wall"), key := Value.str (Str.ofString "_wall") 193, val := Value.ref 21 }, { hash := PyData.keyHash P (Str.ofString "GenericPolynomialRing"), key := Value.str (Str.ofString "GenericPolynomialRing") 248, val := Value.ref 59 }, { hash := PyData.keyHash P (Str.ofString "GenericPolynomial"), key := Value.str (Str.ofString "GenericPolynomial") 447, val := Value.ref 222 }] 12 }
noncomputable def o12_4 : Params → Obj := fun P => { cls := Value.none, data := Data.fields #[Value.int 1 0, Value.int 0 0, Value.ref 20, Value.int 5 0, Value.int 0 0, Value.ref 27, Value.int 23 0, Value.int 0 0, Value.ref 69] }
noncomputable def o64_4 : Params → Obj := fun P => { cls := Value.type "tuple", data := Data.seq #[] }
noncomputable def o65_4 : Params → Obj := fun P => { cls := Value.type "builtin_function_or_method", data := Data.fields #[Value.builtin "type.__prepare__", Value.type "type"] }
noncomputable def o66_4 : Params → Obj := fun P => { cls := Value.type "dict", data := Data.dict #[{ hash := PyData.keyHash P (Str.ofString "__module__"), key := Value.str (Str.ofString "__module__") 256, val := Value.str (Str.ofString "kyber_py.polynomials.polynomials_generic") 194 }, { hash := PyData.keyHash P (Str.ofString "__qualname__"), key := Value.str (Str.ofString "__qualname__") 258, val := Value.str (Str.ofString "GenericPolynomial") 257 }, { hash := PyData.keyHash P (Str.ofString "__firstlineno__"), key := Value.str (Str.ofString "__firstlineno__") 260, val := Value.int 23 259 }, { hash := PyData.keyHash P (Str.ofString "__init__"), key := Value.str (Str.ofString "__init__") 269, val := Value.ref 77 }, { hash := PyData.keyHash P (Str.ofString "is_zero"), key := Value.str (Str.ofString "is_zero") 276, val := Value.ref 84 }, { hash := PyData.keyHash P (Str.ofString "is_constant"), key := Value.str (Str.ofString "is_constant") 283, val := Value.ref 91 }, { hash := PyData.keyHash P (Str.ofString "_parse_coefficients"), key := Value.str (Str.ofString "_parse_coefficients") 289, val := Value.ref 96 }, { hash := PyData.keyHash P (Str.ofString "reduce_coefficients"), key := Value.str (Str.ofString "reduce_coefficients") 296, val := Value.ref 103 }, { hash := PyData.keyHash P (Str.ofString "_add_mod_q"), key := Value.str (Str.ofString "_add_mod_q") 305, val := Value.ref 110 }, { hash := PyData.keyHash P (Str.ofString "_sub_mod_q"), key := Value.str (Str.ofString "_sub_mod_q") 314, val := Value.ref 117 }, { hash := PyData.keyHash P (Str.ofString "_schoolbook_multiplication"), key := Value.str (Str.ofString "_schoolbook_multiplication") 320, val := Value.ref 122 }, { hash := PyData.keyHash P (Str.ofString "__neg__"), key := Value.str (Str.ofString "__neg__") 326, val := Value.ref 127 }, { hash := PyData.keyHash P (Str.ofString "_add_"), key := Value.str (Str.ofString "_add_") 332, val := Value.ref 132 }, { hash := PyData.keyHash P (Str.ofString "__add__"), key := Value.str (Str.ofString "__add__") 341, val := Value.ref 139 }, { hash := PyData.keyHash P (Str.ofString "__radd__"), key := Value.str (Str.ofString "__radd__") 349, val := Value.ref 146 }, { hash := PyData.keyHash P (Str.ofString "__iadd__"), key := Value.str (Str.ofString "__iadd__") 357, val := Value.ref 153 }, { hash := PyData.keyHash P (Str.ofString "_sub_"), key := Value.str (Str.ofString "_sub_") 363, val := Value.ref 158 }, { hash := PyData.keyHash P (Str.ofString "__sub__"), key := Value.str (Str.ofString "__sub__") 372, val := Value.ref 165 }, { hash := PyData.keyHash P (Str.ofString "__rsub__"), key := Value.str (Str.ofString "__rsub__") 380, val := Value.ref 172 }, { hash := PyData.keyHash P (Str.ofString "__isub__"), key := Value.str (Str.ofString "__isub__") 388, val := Value.ref 179 }, { hash := PyData.keyHash P (Str.ofString "__mul__"), key := Value.str (Str.ofString "__mul__") 394, val := Value.ref 184 }, { hash := PyData.keyHash P (Str.ofString "__rmul__"), key := Value.str (Str.ofString "__rmul__") 402, val := Value.ref 191 }, { hash := PyData.keyHash P (Str.ofString "__imul__"), key := Value.str (Str.ofString "__imul__") 410, val := Value.ref 198 }, { hash := PyData.keyHash P (Str.ofString "__pow__"), key := Value.str (Str.ofString "__pow__") 420, val := Value.ref 205 }, { hash := PyData.keyHash P (Str.ofString "__eq__"), key := Value.str (Str.ofString "__eq__") 428, val := Value.ref 212 }, { hash := PyData.keyHash P (Str.ofString "__getitem__"), key := Value.str (Str.ofString "__getitem__") 436, val := Value.ref 219 }, { hash := PyData.keyHash P (Str.ofString "__static_attributes__"), key := Value.str (Str.ofString "__static_attributes__") 439, val := Value.ref 220 }] 27 }
noncomputable def o67_4 : Params → Obj := fun P => { cls := Value.type "tuple", data := Data.seq #[] }
noncomputable def o68_4 : Params → Obj := fun P => { cls := Value.none, data := Data.fields #[Value.int 25 0, Value.int 4 0, Value.ref 76, Value.int 29 0, Value.int 4 0, Value.ref 83, Value.int 32 0, Value.int 4 0, Value.ref 90, Value.int 35 0, Value.int 4 0, Value.ref 95, Value.int 43 0, Value.int 4 0, Value.ref 102, Value.int 46 0, Value.int 4 0, Value.ref 109, Value.int 49 0, Value.int 4 0, Value.ref 116, Value.int 52 0, Value.int 4 0, Value.ref 121, Value.int 65 0, Value.int 4 0, Value.ref 126, Value.int 69 0, Value.int 4 0, Value.ref 131, Value.int 79 0, Value.int 4 0, Value.ref 138, Value.int 83 0, Value.int 4 0, Value.ref 145, Value.int 86 0, Value.int 4 0, Value.ref 152, Value.int 90 0, Value.int 4 0, Value.ref 157, Value.int 100 0, Value.int 4 0, Value.ref 164, Value.int 104 0, Value.int 4 0, Value.ref 171, Value.int 107 0, Value.int 4 0, Value.ref 178, Value.int 111 0, Value.int 4 0, Value.ref 183, Value.int 120 0, Value.int 4 0, Value.ref 190, Value.int 123 0, Value.int 4 0, Value.ref 197, Value.int 127 0, Value.int 4 0, Value.ref 204, Value.int 141 0, Value.int 4 0, Value.ref 211, Value.int 149 0, Value.int 4 0, Value.ref 218] }
noncomputable def o69_4 : Params → Obj := fun P => { cls := Value.type "code", data := Data.fields #[Value.str (Str.ofString "GenericPolynomial") 251, Value.str (Str.ofString "GenericPolynomial") 252, Value.str (Str.ofString "/claim/cut.py") 253, Value.int 23 0, Value.int 0 0, Value.int 0 0, Value.int 0 0, Value.int 0 0, Value.ref 67, Value.bool false, Value.int 181 0, Value.ref 68, Value.none, Value.none, Value.none, Value.none, Value.int 254 0, Value.int 23 0, Value.str (Str.ofString "/claim/cut.py") 255] }
noncomputable def o70_4 : Params → Obj := fun P => { cls := Value.type "frame", slots := #[some (Value.ref 69), some (Value.ref 3), some (Value.ref 66), none, some (Value.str (Str.ofString "kyber_py.polynomials.polynomials_generic") 194), none, some (Value.ref 0)] }
noncomputable def o71_4 : Params → Obj := fun P => { cls := Value.type "tuple", data := Data.seq #[] }
noncomputable def o72_4 : Params → Obj := fun P => { cls := Value.none, data := Data.fields #[] }
noncomputable def o73_4 : Params → Obj := fun P => { cls := Value.type "tuple", data := Data.seq #[Value.str (Str.ofString "self") 264, Value.str (Str.ofString "parent") 265, Value.str (Str.ofString "coefficients") 266] }
noncomputable def o74_4 : Params → Obj := fun P => { cls := Value.type "tuple", data := Data.seq #[] }
noncomputable def o75_4 : Params → Obj := fun P => { cls := Value.none, data := Data.func { name := Str.ofString "__init__", qualname := Str.ofString "GenericPolynomial.__init__", params := P_3_0, body := FuncBody.stmts B_3_0, scope := S_3_0, globals := 0, closure := [], defaults := Value.none, kwdefaults := Value.none } }
noncomputable def o76_4 : Params → Obj := fun P => { cls := Value.type "code", data := Data.fields #[Value.str (Str.ofString "__init__") 261, Value.str (Str.ofString "GenericPolynomial.__init__") 262, Value.str (Str.ofString "/claim/cut.py") 263, Value.int 25 0, Value.int 3 0, Value.int 0 0, Value.int 0 0, Value.int 3 0, Value.ref 71, Value.bool true, Value.int 181 0, Value.ref 72, Value.none, Value.ref 73, Value.ref 74, Value.ref 75, Value.int 267 0, Value.int 25 0, Value.str (Str.ofString "/claim/cut.py") 268] }
noncomputable def o77_4 : Params → Obj := fun P => { cls := Value.type "function", data := Data.func { name := Str.ofString "__init__", qualname := Str.ofString "GenericPolynomial.__init__", params := P_3_0, body := FuncBody.stmts B_3_0, scope := S_3_0, globals := 3, closure := [], defaults := Value.none, kwdefaults := Value.none, pyModule := Value.str (Str.ofString "kyber_py.polynomials.polynomials_generic") 194, code := Value.ref 76 } }
noncomputable def o78_4 : Params → Obj := fun P => { cls := Value.type "tuple", data := Data.seq #[] }
noncomputable def o79_4 : Params → Obj := fun P => { cls := Value.none, data := Data.fields #[] }
noncomputable def o80_4 : Params → Obj := fun P => { cls := Value.type "tuple", data := Data.seq #[Value.str (Str.ofString "self") 273] }
noncomputable def o81_4 : Params → Obj := fun P => { cls := Value.type "tuple", data := Data.seq #[] }
noncomputable def o82_4 : Params → Obj := fun P => { cls := Value.none, data := Data.func { name := Str.ofString "is_zero", qualname := Str.ofString "GenericPolynomial.is_zero", params := P_3_1, body := FuncBody.stmts B_3_1, scope := S_3_1, globals := 0, closure := [], defaults := Value.none, kwdefaults := Value.none } }
noncomputable def o83_4 : Params → Obj := fun P => { cls := Value.type "code", data := Data.fields #[Value.str (Str.ofString "is_zero") 270, Value.str (Str.ofString "GenericPolynomial.is_zero") 271, Value.str (Str.ofString "/claim/cut.py") 272, Value.int 29 0, Value.int 1 0, Value.int 0 0, Value.int 0 0, Value.int 3 0, Value.ref 78, Value.bool true, Value.int 181 0, Value.ref 79, Value.none, Value.ref 80, Value.ref 81, Value.ref 82, Value.int 274 0, Value.int 29 0, Value.str (Str.ofString "/claim/cut.py") 275] }
noncomputable def o84_4 : Params → Obj := fun P => { cls := Value.type "function", data := Data.func { name := Str.ofString "is_zero", qualname := Str.ofString "GenericPolynomial.is_zero", params := P_3_1, body := FuncBody.stmts B_3_1, scope := S_3_1, globals := 3, closure := [], defaults := Value.none, kwdefaults := Value.none, pyModule := Value.str (Str.ofString "kyber_py.polynomials.polynomials_generic") 194, code := Value.ref 83 } }
noncomputable def o85_4 : Params → Obj := fun P => { cls := Value.type "tuple", data := Data.seq #[] }
noncomputable def o86_4 : Params → Obj := fun P => { cls := Value.none, data := Data.fields #[] }
noncomputable def o87_4 : Params → Obj := fun P => { cls := Value.type "tuple", data := Data.seq #[Value.str (Str.ofString "self") 280] }
noncomputable def o88_4 : Params → Obj := fun P => { cls := Value.type "tuple", data := Data.seq #[] }
noncomputable def o89_4 : Params → Obj := fun P => { cls := Value.none, data := Data.func { name := Str.ofString "is_constant", qualname := Str.ofString "GenericPolynomial.is_constant", params := P_3_2, body := FuncBody.stmts B_3_2, scope := S_3_2, globals := 0, closure := [], defaults := Value.none, kwdefaults := Value.none } }
noncomputable def o90_4 : Params → Obj := fun P => { cls := Value.type "code", data := Data.fields #[Value.str (Str.ofString "is_constant") 277, Value.str (Str.ofString "GenericPolynomial.is_constant") 278, Value.str (Str.ofString "/claim/cut.py") 279, Value.int 32 0, Value.int 1 0, Value.int 0 0, Value.int 0 0, Value.int 3 0, Value.ref 85, Value.bool true, Value.int 181 0, Value.ref 86, Value.none, Value.ref 87, Value.ref 88, Value.ref 89, Value.int 281 0, Value.int 32 0, Value.str (Str.ofString "/claim/cut.py") 282] }
noncomputable def o91_4 : Params → Obj := fun P => { cls := Value.type "function", data := Data.func { name := Str.ofString "is_constant", qualname := Str.ofString "GenericPolynomial.is_constant", params := P_3_2, body := FuncBody.stmts B_3_2, scope := S_3_2, globals := 3, closure := [], defaults := Value.none, kwdefaults := Value.none, pyModule := Value.str (Str.ofString "kyber_py.polynomials.polynomials_generic") 194, code := Value.ref 90 } }
noncomputable def o92_4 : Params → Obj := fun P => { cls := Value.type "tuple", data := Data.seq #[] }
noncomputable def o93_4 : Params → Obj := fun P => { cls := Value.none, data := Data.fields #[] }
noncomputable def o94_4 : Params → Obj := fun P => { cls := Value.none, data := Data.func { name := Str.ofString "_parse_coefficients", qualname := Str.ofString "GenericPolynomial._parse_coefficients", params := P_3_3, body := FuncBody.stmts B_3_3, scope := S_3_3, globals := 0, closure := [], defaults := Value.none, kwdefaults := Value.none } }
noncomputable def o95_4 : Params → Obj := fun P => { cls := Value.type "code", data := Data.fields #[Value.str (Str.ofString "_parse_coefficients") 284, Value.str (Str.ofString "GenericPolynomial._parse_coefficients") 285, Value.str (Str.ofString "/claim/cut.py") 286, Value.int 35 0, Value.int 2 0, Value.int 0 0, Value.int 0 0, Value.int 3 0, Value.ref 92, Value.bool true, Value.int 181 0, Value.ref 93, Value.none, Value.none, Value.none, Value.ref 94, Value.int 287 0, Value.int 35 0, Value.str (Str.ofString "/claim/cut.py") 288] }
noncomputable def o96_4 : Params → Obj := fun P => { cls := Value.type "function", data := Data.func { name := Str.ofString "_parse_coefficients", qualname := Str.ofString "GenericPolynomial._parse_coefficients", params := P_3_3, body := FuncBody.stmts B_3_3, scope := S_3_3, globals := 3, closure := [], defaults := Value.none, kwdefaults := Value.none, pyModule := Value.str (Str.ofString "kyber_py.polynomials.polynomials_generic") 194, code := Value.ref 95 } }
noncomputable def o97_4 : Params → Obj := fun P => { cls := Value.type "tuple", data := Data.seq #[] }
noncomputable def o98_4 : Params → Obj := fun P => { cls := Value.none, data := Data.fields #[] }
noncomputable def o99_4 : Params → Obj := fun P => { cls := Value.type "tuple", data := Data.seq #[Value.str (Str.ofString "self") 293] }
noncomputable def o100_4 : Params → Obj := fun P => { cls := Value.type "tuple", data := Data.seq #[] }
noncomputable def o101_4 : Params → Obj := fun P => { cls := Value.none, data := Data.func { name := Str.ofString "reduce_coefficients", qualname := Str.ofString "GenericPolynomial.reduce_coefficients", params := P_3_4, body := FuncBody.stmts B_3_4, scope := S_3_4, globals := 0, closure := [], defaults := Value.none, kwdefaults := Value.none } }
noncomputable def o102_4 : Params → Obj := fun P => { cls := Value.type "code", data := Data.fields #[Value.str (Str.ofString "reduce_coefficients") 290, Value.str (Str.ofString "GenericPolynomial.reduce_coefficients") 291, Value.str (Str.ofString "/claim/cut.py") 292, Value.int 43 0, Value.int 1 0, Value.int 0 0, Value.int 0 0, Value.int 3 0, Value.ref 97, Value.bool true, Value.int 181 0, Value.ref 98, Value.none, Value.ref 99, Value.ref 100, Value.ref 101, Value.int 294 0, Value.int 43 0, Value.str (Str.ofString "/claim/cut.py") 295] }
noncomputable def o103_4 : Params → Obj := fun P => { cls := Value.type "function", data := Data.func { name := Str.ofString "reduce_coefficients", qualname := Str.ofString "GenericPolynomial.reduce_coefficients", params := P_3_4, body := FuncBody.stmts B_3_4, scope := S_3_4, globals := 3, closure := [], defaults := Value.none, kwdefaults := Value.none, pyModule := Value.str (Str.ofString "kyber_py.polynomials.polynomials_generic") 194, code := Value.ref 102 } }
noncomputable def o104_4 : Params → Obj := fun P => { cls := Value.type "tuple", data := Data.seq #[] }
noncomputable def o105_4 : Params → Obj := fun P => { cls := Value.none, data := Data.fields #[] }
noncomputable def o106_4 : Params → Obj := fun P => { cls := Value.type "tuple", data := Data.seq #[Value.str (Str.ofString "self") 300, Value.str (Str.ofString "x") 301, Value.str (Str.ofString "y") 302] }
noncomputable def o107_4 : Params → Obj := fun P => { cls := Value.type "tuple", data := Data.seq #[] }
noncomputable def o108_4 : Params → Obj := fun P => { cls := Value.none, data := Data.func { name := Str.ofString "_add_mod_q", qualname := Str.ofString "GenericPolynomial._add_mod_q", params := P_3_5, body := FuncBody.stmts B_3_5, scope := S_3_5, globals := 0, closure := [], defaults := Value.none, kwdefaults := Value.none } }
noncomputable def o109_4 : Params → Obj := fun P => { cls := Value.type "code", data := Data.fields #[Value.str (Str.ofString "_add_mod_q") 297, Value.str (Str.ofString "GenericPolynomial._add_mod_q") 298, Value.str (Str.ofString "/claim/cut.py") 299, Value.int 46 0, Value.int 3 0, Value.int 0 0, Value.int 0 0, Value.int 3 0, Value.ref 104, Value.bool true, Value.int 181 0, Value.ref 105, Value.none, Value.ref 106, Value.ref 107, Value.ref 108, Value.int 303 0, Value.int 46 0, Value.str (Str.ofString "/claim/cut.py") 304] }
noncomputable def o110_4 : Params → Obj := fun P => { cls := Value.type "function", data := Data.func { name := Str.ofString "_add_mod_q", qualname := Str.ofString "GenericPolynomial._add_mod_q", params := P_3_5, body := FuncBody.stmts B_3_5, scope := S_3_5, globals := 3, closure := [], defaults := Value.none, kwdefaults := Value.none, pyModule := Value.str (Str.ofString "kyber_py.polynomials.polynomials_generic") 194, code := Value.ref 109 } }
noncomputable def o111_4 : Params → Obj := fun P => { cls := Value.type "tuple", data := Data.seq #[] }
noncomputable def o112_4 : Params → Obj := fun P => { cls := Value.none, data := Data.fields #[] }
noncomputable def o113_4 : Params → Obj := fun P => { cls := Value.type "tuple", data := Data.seq #[Value.str (Str.ofString "self") 309, Value.str (Str.ofString "x") 310, Value.str (Str.ofString "y") 311] }
noncomputable def o114_4 : Params → Obj := fun P => { cls := Value.type "tuple", data := Data.seq #[] }
noncomputable def o115_4 : Params → Obj := fun P => { cls := Value.none, data := Data.func { name := Str.ofString "_sub_mod_q", qualname := Str.ofString "GenericPolynomial._sub_mod_q", params := P_3_6, body := FuncBody.stmts B_3_6, scope := S_3_6, globals := 0, closure := [], defaults := Value.none, kwdefaults := Value.none } }
noncomputable def o116_4 : Params → Obj := fun P => { cls := Value.type "code", data := Data.fields #[Value.str (Str.ofString "_sub_mod_q") 306, Value.str (Str.ofString "GenericPolynomial._sub_mod_q") 307, Value.str (Str.ofString "/claim/cut.py") 308, Value.int 49 0, Value.int 3 0, Value.int 0 0, Value.int 0 0, Value.int 3 0, Value.ref 111, Value.bool true, Value.int 181 0, Value.ref 112, Value.none, Value.ref 113, Value.ref 114, Value.ref 115, Value.int 312 0, Value.int 49 0, Value.str (Str.ofString "/claim/cut.py") 313] }
noncomputable def o117_4 : Params → Obj := fun P => { cls := Value.type "function", data := Data.func { name := Str.ofString "_sub_mod_q", qualname := Str.ofString "GenericPolynomial._sub_mod_q", params := P_3_6, body := FuncBody.stmts B_3_6, scope := S_3_6, globals := 3, closure := [], defaults := Value.none, kwdefaults := Value.none, pyModule := Value.str (Str.ofString "kyber_py.polynomials.polynomials_generic") 194, code := Value.ref 116 } }
noncomputable def o118_4 : Params → Obj := fun P => { cls := Value.type "tuple", data := Data.seq #[] }
noncomputable def o119_4 : Params → Obj := fun P => { cls := Value.none, data := Data.fields #[] }
noncomputable def o120_4 : Params → Obj := fun P => { cls := Value.none, data := Data.func { name := Str.ofString "_schoolbook_multiplication", qualname := Str.ofString "GenericPolynomial._schoolbook_multiplication", params := P_3_7, body := FuncBody.stmts B_3_7, scope := S_3_7, globals := 0, closure := [], defaults := Value.none, kwdefaults := Value.none } }
noncomputable def o121_4 : Params → Obj := fun P => { cls := Value.type "code", data := Data.fields #[Value.str (Str.ofString "_schoolbook_multiplication") 315, Value.str (Str.ofString "GenericPolynomial._schoolbook_multiplication") 316, Value.str (Str.ofString "/claim/cut.py") 317, Value.int 52 0, Value.int 2 0, Value.int 0 0, Value.int 0 0, Value.int 3 0, Value.ref 118, Value.bool true, Value.int 181 0, Value.ref 119, Value.none, Value.none, Value.none, Value.ref 120, Value.int 318 0, Value.int 52 0, Value.str (Str.ofString "/claim/cut.py") 319] }
noncomputable def o122_4 : Params → Obj := fun P => { cls := Value.type "function", data := Data.func { name := Str.ofString "_schoolbook_multiplication", qualname := Str.ofString "GenericPolynomial._schoolbook_multiplication", params := P_3_7, body := FuncBody.stmts B_3_7, scope := S_3_7, globals := 3, closure := [], defaults := Value.none, kwdefaults := Value.none, pyModule := Value.str (Str.ofString "kyber_py.polynomials.polynomials_generic") 194, code := Value.ref 121 } }
noncomputable def o123_4 : Params → Obj := fun P => { cls := Value.type "tuple", data := Data.seq #[] }
noncomputable def o124_4 : Params → Obj := fun P => { cls := Value.none, data := Data.fields #[] }
noncomputable def o125_4 : Params → Obj := fun P => { cls := Value.none, data := Data.func { name := Str.ofString "__neg__", qualname := Str.ofString "GenericPolynomial.__neg__", params := P_3_8, body := FuncBody.stmts B_3_8, scope := S_3_8, globals := 0, closure := [], defaults := Value.none, kwdefaults := Value.none } }
noncomputable def o126_4 : Params → Obj := fun P => { cls := Value.type "code", data := Data.fields #[Value.str (Str.ofString "__neg__") 321, Value.str (Str.ofString "GenericPolynomial.__neg__") 322, Value.str (Str.ofString "/claim/cut.py") 323, Value.int 65 0, Value.int 1 0, Value.int 0 0, Value.int 0 0, Value.int 3 0, Value.ref 123, Value.bool true, Value.int 181 0, Value.ref 124, Value.none, Value.none, Value.none, Value.ref 125, Value.int 324 0, Value.int 65 0, Value.str (Str.ofString "/claim/cut.py") 325] }
noncomputable def o127_4 : Params → Obj := fun P => { cls := Value.type "function", data := Data.func { name := Str.ofString "__neg__", qualname := Str.ofString "GenericPolynomial.__neg__", params := P_3_8, body := FuncBody.stmts B_3_8, scope := S_3_8, globals := 3, closure := [], defaults := Value.none, kwdefaults := Value.none, pyModule := Value.str (Str.ofString "kyber_py.polynomials.polynomials_generic") 194, code := Value.ref 126 } }
noncomputable def o128_4 : Params → Obj := fun P => { cls := Value.type "tuple", data := Data.seq #[] }
noncomputable def o129_4 : Params → Obj := fun P => { cls := Value.none, data := Data.fields #[] }
noncomputable def o130_4 : Params → Obj := fun P => { cls := Value.none, data := Data.func { name := Str.ofString "_add_", qualname := Str.ofString "GenericPolynomial._add_", params := P_3_9, body := FuncBody.stmts B_3_9, scope := S_3_9, globals := 0, closure := [], defaults := Value.none, kwdefaults := Value.none } }
noncomputable def o131_4 : Params → Obj := fun P => { cls := Value.type "code", data := Data.fields #[Value.str (Str.ofString "_add_") 327, Value.str (Str.ofString "GenericPolynomial._add_") 328, Value.str (Str.ofString "/claim/cut.py") 329, Value.int 69 0, Value.int 2 0, Value.int 0 0, Value.int 0 0, Value.int 3 0, Value.ref 128, Value.bool true, Value.int 181 0, Value.ref 129, Value.none, Value.none, Value.none, Value.ref 130, Value.int 330 0, Value.int 69 0, Value.str (Str.ofString "/claim/cut.py") 331] }
noncomputable def o132_4 : Params → Obj := fun P => { cls := Value.type "function", data := Data.func { name := Str.ofString "_add_", qualname := Str.ofString "GenericPolynomial._add_", params := P_3_9, body := FuncBody.stmts B_3_9, scope := S_3_9, globals := 3, closure := [], defaults := Value.none, kwdefaults := Value.none, pyModule := Value.str (Str.ofString "kyber_py.polynomials.polynomials_generic") 194, code := Value.ref 131 } }
noncomputable def o133_4 : Params → Obj := fun P => { cls := Value.type "tuple", data := Data.seq #[] }
noncomputable def o134_4 : Params → Obj := fun P => { cls := Value.none, data := Data.fields #[] }
noncomputable def o135_4 : Params → Obj := fun P => { cls := Value.type "tuple", data := Data.seq #[Value.str (Str.ofString "self") 336, Value.str (Str.ofString "other") 337, Value.str (Str.ofString "new_coeffs") 338] }
noncomputable def o136_4 : Params → Obj := fun P => { cls := Value.type "tuple", data := Data.seq #[] }
noncomputable def o137_4 : Params → Obj := fun P => { cls := Value.none, data := Data.func { name := Str.ofString "__add__", qualname := Str.ofString "GenericPolynomial.__add__", params := P_3_10, body := FuncBody.stmts B_3_10, scope := S_3_10, globals := 0, closure := [], defaults := Value.none, kwdefaults := Value.none } }
noncomputable def o138_4 : Params → Obj := fun P => { cls := Value.type "code", data := Data.fields #[Value.str (Str.ofString "__add__") 333, Value.str (Str.ofString "GenericPolynomial.__add__") 334, Value.str (Str.ofString "/claim/cut.py") 335, Value.int 79 0, Value.int 2 0, Value.int 0 0, Value.int 0 0, Value.int 3 0, Value.ref 133, Value.bool true, Value.int 181 0, Value.ref 134, Value.none, Value.ref 135, Value.ref 136, Value.ref 137, Value.int 339 0, Value.int 79 0, Value.str (Str.ofString "/claim/cut.py") 340] }
noncomputable def o139_4 : Params → Obj := fun P => { cls := Value.type "function", data := Data.func { name := Str.ofString "__add__", qualname := Str.ofString "GenericPolynomial.__add__", params := P_3_10, body := FuncBody.stmts B_3_10, scope := S_3_10, globals := 3, closure := [], defaults := Value.none, kwdefaults := Value.none, pyModule := Value.str (Str.ofString "kyber_py.polynomials.polynomials_generic") 194, code := Value.ref 138 } }
noncomputable def o140_4 : Params → Obj := fun P => { cls := Value.type "tuple", data := Data.seq #[] }
noncomputable def o141_4 : Params → Obj := fun P => { cls := Value.none, data := Data.fields #[] }
noncomputable def o142_4 : Params → Obj := fun P => { cls := Value.type "tuple", data := Data.seq #[Value.str (Str.ofString "self") 345, Value.str (Str.ofString "other") 346] }
noncomputable def o143_4 : Params → Obj := fun P => { cls := Value.type "tuple", data := Data.seq #[] }
noncomputable def o144_4 : Params → Obj := fun P => { cls := Value.none, data := Data.func { name := Str.ofString "__radd__", qualname := Str.ofString "GenericPolynomial.__radd__", params := P_3_11, body := FuncBody.stmts B_3_11, scope := S_3_11, globals := 0, closure := [], defaults := Value.none, kwdefaults := Value.none } }
noncomputable def o145_4 : Params → Obj := fun P => { cls := Value.type "code", data := Data.fields #[Value.str (Str.ofString "__radd__") 342, Value.str (Str.ofString "GenericPolynomial.__radd__") 343, Value.str (Str.ofString "/claim/cut.py") 344, Value.int 83 0, Value.int 2 0, Value.int 0 0, Value.int 0 0, Value.int 3 0, Value.ref 140, Value.bool true, Value.int 181 0, Value.ref 141, Value.none, Value.ref 142, Value.ref 143, Value.ref 144, Value.int 347 0, Value.int 83 0, Value.str (Str.ofString "/claim/cut.py") 348] }
noncomputable def o146_4 : Params → Obj := fun P => { cls := Value.type "function", data := Data.func { name := Str.ofString "__radd__", qualname := Str.ofString "GenericPolynomial.__radd__", params := P_3_11, body := FuncBody.stmts B_3_11, scope := S_3_11, globals := 3, closure := [], defaults := Value.none, kwdefaults := Value.none, pyModule := Value.str (Str.ofString "kyber_py.polynomials.polynomials_generic") 194, code := Value.ref 145 } }
noncomputable def o147_4 : Params → Obj := fun P => { cls := Value.type "tuple", data := Data.seq #[] }
noncomputable def o148_4 : Params → Obj := fun P => { cls := Value.none, data := Data.fields #[] }
noncomputable def o149_4 : Params → Obj := fun P => { cls := Value.type "tuple", data := Data.seq #[Value.str (Str.ofString "self") 353, Value.str (Str.ofString "other") 354] }
noncomputable def o150_4 : Params → Obj := fun P => { cls := Value.type "tuple", data := Data.seq #[] }
noncomputable def o151_4 : Params → Obj := fun P => { cls := Value.none, data := Data.func { name := Str.ofString "__iadd__", qualname := Str.ofString "GenericPolynomial.__iadd__", params := P_3_12, body := FuncBody.stmts B_3_12, scope := S_3_12, globals := 0, closure := [], defaults := Value.none, kwdefaults := Value.none } }
noncomputable def o152_4 : Params → Obj := fun P => { cls := Value.type "code", data := Data.fields #[Value.str (Str.ofString "__iadd__") 350, Value.str (Str.ofString "GenericPolynomial.__iadd__") 351, Value.str (Str.ofString "/claim/cut.py") 352, Value.int 86 0, Value.int 2 0, Value.int 0 0, Value.int 0 0, Value.int 3 0, Value.ref 147, Value.bool true, Value.int 181 0, Value.ref 148, Value.none, Value.ref 149, Value.ref 150, Value.ref 151, Value.int 355 0, Value.int 86 0, Value.str (Str.ofString "/claim/cut.py") 356] }
noncomputable def o153_4 : Params → Obj := fun P => { cls := Value.type "function", data := Data.func { name := Str.ofString "__iadd__", qualname := Str.ofString "GenericPolynomial.__iadd__", params := P_3_12, body := FuncBody.stmts B_3_12, scope := S_3_12, globals := 3, closure := [], defaults := Value.none, kwdefaults := Value.none, pyModule := Value.str (Str.ofString "kyber_py.polynomials.polynomials_generic") 194, code := Value.ref 152 } }
noncomputable def o154_4 : Params → Obj := fun P => { cls := Value.type "tuple", data := Data.seq #[] }
noncomputable def o155_4 : Params → Obj := fun P => { cls := Value.none, data := Data.fields #[] }
noncomputable def o156_4 : Params → Obj := fun P => { cls := Value.none, data := Data.func { name := Str.ofString "_sub_", qualname := Str.ofString "GenericPolynomial._sub_", params := P_3_13, body := FuncBody.stmts B_3_13, scope := S_3_13, globals := 0, closure := [], defaults := Value.none, kwdefaults := Value.none } }
noncomputable def o157_4 : Params → Obj := fun P => { cls := Value.type "code", data := Data.fields #[Value.str (Str.ofString "_sub_") 358, Value.str (Str.ofString "GenericPolynomial._sub_") 359, Value.str (Str.ofString "/claim/cut.py") 360, Value.int 90 0, Value.int 2 0, Value.int 0 0, Value.int 0 0, Value.int 3 0, Value.ref 154, Value.bool true, Value.int 181 0, Value.ref 155, Value.none, Value.none, Value.none, Value.ref 156, Value.int 361 0, Value.int 90 0, Value.str (Str.ofString "/claim/cut.py") 362] }
noncomputable def o158_4 : Params → Obj := fun P => { cls := Value.type "function", data := Data.func { name := Str.ofString "_sub_", qualname := Str.ofString "GenericPolynomial._sub_", params := P_3_13, body := FuncBody.stmts B_3_13, scope := S_3_13, globals := 3, closure := [], defaults := Value.none, kwdefaults := Value.none, pyModule := Value.str (Str.ofString "kyber_py.polynomials.polynomials_generic") 194, code := Value.ref 157 } }
noncomputable def o159_4 : Params → Obj := fun P => { cls := Value.type "tuple", data := Data.seq #[] }
noncomputable def o160_4 : Params → Obj := fun P => { cls := Value.none, data := Data.fields #[] }
noncomputable def o161_4 : Params → Obj := fun P => { cls := Value.type "tuple", data := Data.seq #[Value.str (Str.ofString "self") 367, Value.str (Str.ofString "other") 368, Value.str (Str.ofString "new_coeffs") 369] }
noncomputable def o162_4 : Params → Obj := fun P => { cls := Value.type "tuple", data := Data.seq #[] }
noncomputable def o163_4 : Params → Obj := fun P => { cls := Value.none, data := Data.func { name := Str.ofString "__sub__", qualname := Str.ofString "GenericPolynomial.__sub__", params := P_3_14, body := FuncBody.stmts B_3_14, scope := S_3_14, globals := 0, closure := [], defaults := Value.none, kwdefaults := Value.none } }
noncomputable def o164_4 : Params → Obj := fun P => { cls := Value.type "code", data := Data.fields #[Value.str (Str.ofString "__sub__") 364, Value.str (Str.ofString "GenericPolynomial.__sub__") 365, Value.str (Str.ofString "/claim/cut.py") 366, Value.int 100 0, Value.int 2 0, Value.int 0 0, Value.int 0 0, Value.int 3 0, Value.ref 159, Value.bool true, Value.int 181 0, Value.ref 160, Value.none, Value.ref 161, Value.ref 162, Value.ref 163, Value.int 370 0, Value.int 100 0, Value.str (Str.ofString "/claim/cut.py") 371] }
noncomputable def o165_4 : Params → Obj := fun P => { cls := Value.type "function", data := Data.func { name := Str.ofString "__sub__", qualname := Str.ofString "GenericPolynomial.__sub__", params := P_3_14, body := FuncBody.stmts B_3_14, scope := S_3_14, globals := 3, closure := [], defaults := Value.none, kwdefaults := Value.none, pyModule := Value.str (Str.ofString "kyber_py.polynomials.polynomials_generic") 194, code := Value.ref 164 } }
noncomputable def o166_4 : Params → Obj := fun P => { cls := Value.type "tuple", data := Data.seq #[] }
noncomputable def o167_4 : Params → Obj := fun P => { cls := Value.none, data := Data.fields #[] }
noncomputable def o168_4 : Params → Obj := fun P => { cls := Value.type "tuple", data := Data.seq #[Value.str (Str.ofString "self") 376, Value.str (Str.ofString "other") 377] }
noncomputable def o169_4 : Params → Obj := fun P => { cls := Value.type "tuple", data := Data.seq #[] }
noncomputable def o170_4 : Params → Obj := fun P => { cls := Value.none, data := Data.func { name := Str.ofString "__rsub__", qualname := Str.ofString "GenericPolynomial.__rsub__", params := P_3_15, body := FuncBody.stmts B_3_15, scope := S_3_15, globals := 0, closure := [], defaults := Value.none, kwdefaults := Value.none } }
noncomputable def o171_4 : Params → Obj := fun P => { cls := Value.type "code", data := Data.fields #[Value.str (Str.ofString "__rsub__") 373, Value.str (Str.ofString "GenericPolynomial.__rsub__") 374, Value.str (Str.ofString "/claim/cut.py") 375, Value.int 104 0, Value.int 2 0, Value.int 0 0, Value.int 0 0, Value.int 3 0, Value.ref 166, Value.bool true, Value.int 181 0, Value.ref 167, Value.none, Value.ref 168, Value.ref 169, Value.ref 170, Value.int 378 0, Value.int 104 0, Value.str (Str.ofString "/claim/cut.py") 379] }
noncomputable def o172_4 : Params → Obj := fun P => { cls := Value.type "function", data := Data.func { name := Str.ofString "__rsub__", qualname := Str.ofString "GenericPolynomial.__rsub__", params := P_3_15, body := FuncBody.stmts B_3_15, scope := S_3_15, globals := 3, closure := [], defaults := Value.none, kwdefaults := Value.none, pyModule := Value.str (Str.ofString "kyber_py.polynomials.polynomials_generic") 194, code := Value.ref 171 } }
noncomputable def o173_4 : Params → Obj := fun P => { cls := Value.type "tuple", data := Data.seq #[] }
noncomputable def o174_4 : Params → Obj := fun P => { cls := Value.none, data := Data.fields #[] }
noncomputable def o175_4 : Params → Obj := fun P => { cls := Value.type "tuple", data := Data.seq #[Value.str (Str.ofString "self") 384, Value.str (Str.ofString "other") 385] }
noncomputable def o176_4 : Params → Obj := fun P => { cls := Value.type "tuple", data := Data.seq #[] }
noncomputable def o177_4 : Params → Obj := fun P => { cls := Value.none, data := Data.func { name := Str.ofString "__isub__", qualname := Str.ofString "GenericPolynomial.__isub__", params := P_3_16, body := FuncBody.stmts B_3_16, scope := S_3_16, globals := 0, closure := [], defaults := Value.none, kwdefaults := Value.none } }
noncomputable def o178_4 : Params → Obj := fun P => { cls := Value.type "code", data := Data.fields #[Value.str (Str.ofString "__isub__") 381, Value.str (Str.ofString "GenericPolynomial.__isub__") 382, Value.str (Str.ofString "/claim/cut.py") 383, Value.int 107 0, Value.int 2 0, Value.int 0 0, Value.int 0 0, Value.int 3 0, Value.ref 173, Value.bool true, Value.int 181 0, Value.ref 174, Value.none, Value.ref 175, Value.ref 176, Value.ref 177, Value.int 386 0, Value.int 107 0, Value.str (Str.ofString "/claim/cut.py") 387] }
noncomputable def o179_4 : Params → Obj := fun P => { cls := Value.type "function", data := Data.func { name := Str.ofString "__isub__", qualname := Str.ofString "GenericPolynomial.__isub__", params := P_3_16, body := FuncBody.stmts B_3_16, scope := S_3_16, globals := 3, closure := [], defaults := Value.none, kwdefaults := Value.none, pyModule := Value.str (Str.ofString "kyber_py.polynomials.polynomials_generic") 194, code := Value.ref 178 } }
noncomputable def o180_4 : Params → Obj := fun P => { cls := Value.type "tuple", data := Data.seq #[] }
noncomputable def o181_4 : Params → Obj := fun P => { cls := Value.none, data := Data.fields #[] }
noncomputable def o182_4 : Params → Obj := fun P => { cls := Value.none, data := Data.func { name := Str.ofString "__mul__", qualname := Str.ofString "GenericPolynomial.__mul__", params := P_3_17, body := FuncBody.stmts B_3_17, scope := S_3_17, globals := 0, closure := [], defaults := Value.none, kwdefaults := Value.none } }
noncomputable def o183_4 : Params → Obj := fun P => { cls := Value.type "code", data := Data.fields #[Value.str (Str.ofString "__mul__") 389, Value.str (Str.ofString "GenericPolynomial.__mul__") 390, Value.str (Str.ofString "/claim/cut.py") 391, Value.int 111 0, Value.int 2 0, Value.int 0 0, Value.int 0 0, Value.int 3 0, Value.ref 180, Value.bool true, Value.int 181 0, Value.ref 181, Value.none, Value.none, Value.none, Value.ref 182, Value.int 392 0, Value.int 111 0, Value.str (Str.ofString "/claim/cut.py") 393] }
noncomputable def o184_4 : Params → Obj := fun P => { cls := Value.type "function", data := Data.func { name := Str.ofString "__mul__", qualname := Str.ofString "GenericPolynomial.__mul__", params := P_3_17, body := FuncBody.stmts B_3_17, scope := S_3_17, globals := 3, closure := [], defaults := Value.none, kwdefaults := Value.none, pyModule := Value.str (Str.ofString "kyber_py.polynomials.polynomials_generic") 194, code := Value.ref 183 } }
noncomputable def o185_4 : Params → Obj := fun P => { cls := Value.type "tuple", data := Data.seq #[] }
noncomputable def o186_4 : Params → Obj := fun P => { cls := Value.none, data := Data.fields #[] }
noncomputable def o187_4 : Params → Obj := fun P => { cls := Value.type "tuple", data := Data.seq #[Value.str (Str.ofString "self") 398, Value.str (Str.ofString "other") 399] }
noncomputable def o188_4 : Params → Obj := fun P => { cls := Value.type "tuple", data := Data.seq #[] }
noncomputable def o189_4 : Params → Obj := fun P => { cls := Value.none, data := Data.func { name := Str.ofString "__rmul__", qualname := Str.ofString "GenericPolynomial.__rmul__", params := P_3_18, body := FuncBody.stmts B_3_18, scope := S_3_18, globals := 0, closure := [], defaults := Value.none, kwdefaults := Value.none } }
noncomputable def o190_4 : Params → Obj := fun P => { cls := Value.type "code", data := Data.fields #[Value.str (Str.ofString "__rmul__") 395, Value.str (Str.ofString "GenericPolynomial.__rmul__") 396, Value.str (Str.ofString "/claim/cut.py") 397, Value.int 120 0, Value.int 2 0, Value.int 0 0, Value.int 0 0, Value.int 3 0, Value.ref 185, Value.bool true, Value.int 181 0, Value.ref 186, Value.none, Value.ref 187, Value.ref 188, Value.ref 189, Value.int 400 0, Value.int 120 0, Value.str (Str.ofString "/claim/cut.py") 401] }
noncomputable def o191_4 : Params → Obj := fun P => { cls := Value.type "function", data := Data.func { name := Str.ofString "__rmul__", qualname := Str.ofString "GenericPolynomial.__rmul__", params := P_3_18, body := FuncBody.stmts B_3_18, scope := S_3_18, globals := 3, closure := [], defaults := Value.none, kwdefaults := Value.none, pyModule := Value.str (Str.ofString "kyber_py.polynomials.polynomials_generic") 194, code := Value.ref 190 } }
noncomputable def o192_4 : Params → Obj := fun P => { cls := Value.type "tuple", data := Data.seq #[] }
noncomputable def o193_4 : Params → Obj := fun P => { cls := Value.none, data := Data.fields #[] }
noncomputable def o194_4 : Params → Obj := fun P => { cls := Value.type "tuple", data := Data.seq #[Value.str (Str.ofString "self") 406, Value.str (Str.ofString "other") 407] }
noncomputable def o195_4 : Params → Obj := fun P => { cls := Value.type "tuple", data := Data.seq #[] }
noncomputable def o196_4 : Params → Obj := fun P => { cls := Value.none, data := Data.func { name := Str.ofString "__imul__", qualname := Str.ofString "GenericPolynomial.__imul__", params := P_3_19, body := FuncBody.stmts B_3_19, scope := S_3_19, globals := 0, closure := [], defaults := Value.none, kwdefaults := Value.none } }
noncomputable def o197_4 : Params → Obj := fun P => { cls := Value.type "code", data := Data.fields #[Value.str (Str.ofString "__imul__") 403, Value.str (Str.ofString "GenericPolynomial.__imul__") 404, Value.str (Str.ofString "/claim/cut.py") 405, Value.int 123 0, Value.int 2 0, Value.int 0 0, Value.int 0 0, Value.int 3 0, Value.ref 192, Value.bool true, Value.int 181 0, Value.ref 193, Value.none, Value.ref 194, Value.ref 195, Value.ref 196, Value.int 408 0, Value.int 123 0, Value.str (Str.ofString "/claim/cut.py") 409] }
noncomputable def o198_4 : Params → Obj := fun P => { cls := Value.type "function", data := Data.func { name := Str.ofString "__imul__", qualname := Str.ofString "GenericPolynomial.__imul__", params := P_3_19, body := FuncBody.stmts B_3_19, scope := S_3_19, globals := 3, closure := [], defaults := Value.none, kwdefaults := Value.none, pyModule := Value.str (Str.ofString "kyber_py.polynomials.polynomials_generic") 194, code := Value.ref 197 } }
noncomputable def o199_4 : Params → Obj := fun P => { cls := Value.type "tuple", data := Data.seq #[] }
noncomputable def o200_4 : Params → Obj := fun P => { cls := Value.none, data := Data.fields #[] }
noncomputable def o201_4 : Params → Obj := fun P => { cls := Value.type "tuple", data := Data.seq #[Value.str (Str.ofString "self") 414, Value.str (Str.ofString "n") 415, Value.str (Str.ofString "f") 416, Value.str (Str.ofString "g") 417] }
noncomputable def o202_4 : Params → Obj := fun P => { cls := Value.type "tuple", data := Data.seq #[] }
noncomputable def o203_4 : Params → Obj := fun P => { cls := Value.none, data := Data.func { name := Str.ofString "__pow__", qualname := Str.ofString "GenericPolynomial.__pow__", params := P_3_20, body := FuncBody.stmts B_3_20, scope := S_3_20, globals := 0, closure := [], defaults := Value.none, kwdefaults := Value.none } }
noncomputable def o204_4 : Params → Obj := fun P => { cls := Value.type "code", data := Data.fields #[Value.str (Str.ofString "__pow__") 411, Value.str (Str.ofString "GenericPolynomial.__pow__") 412, Value.str (Str.ofString "/claim/cut.py") 413, Value.int 127 0, Value.int 2 0, Value.int 0 0, Value.int 0 0, Value.int 3 0, Value.ref 199, Value.bool true, Value.int 181 0, Value.ref 200, Value.none, Value.ref 201, Value.ref 202, Value.ref 203, Value.int 418 0, Value.int 127 0, Value.str (Str.ofString "/claim/cut.py") 419] }
noncomputable def o205_4 : Params → Obj := fun P => { cls := Value.type "function", data := Data.func { name := Str.ofString "__pow__", qualname := Str.ofString "GenericPolynomial.__pow__", params := P_3_20, body := FuncBody.stmts B_3_20, scope := S_3_20, globals := 3, closure := [], defaults := Value.none, kwdefaults := Value.none, pyModule := Value.str (Str.ofString "kyber_py.polynomials.polynomials_generic") 194, code := Value.ref 204 } }
noncomputable def o206_4 : Params → Obj := fun P => { cls := Value.type "tuple", data := Data.seq #[] }
noncomputable def o207_4 : Params → Obj := fun P => { cls := Value.none, data := Data.fields #[] }
noncomputable def o208_4 : Params → Obj := fun P => { cls := Value.type "tuple", data := Data.seq #[Value.str (Str.ofString "self") 424, Value.str (Str.ofString "other") 425] }
noncomputable def o209_4 : Params → Obj := fun P => { cls := Value.type "tuple", data := Data.seq #[] }
noncomputable def o210_4 : Params → Obj := fun P => { cls := Value.none, data := Data.func { name := Str.ofString "__eq__", qualname := Str.ofString "GenericPolynomial.__eq__", params := P_3_21, body := FuncBody.stmts B_3_21, scope := S_3_21, globals := 0, closure := [], defaults := Value.none, kwdefaults := Value.none } }
noncomputable def o211_4 : Params → Obj := fun P => { cls := Value.type "code", data := Data.fields #[Value.str (Str.ofString "__eq__") 421, Value.str (Str.ofString "GenericPolynomial.__eq__") 422, Value.str (Str.ofString "/claim/cut.py") 423, Value.int 141 0, Value.int 2 0, Value.int 0 0, Value.int 0 0, Value.int 3 0, Value.ref 206, Value.bool true, Value.int 181 0, Value.ref 207, Value.none, Value.ref 208, Value.ref 209, Value.ref 210, Value.int 426 0, Value.int 141 0, Value.str (Str.ofString "/claim/cut.py") 427] }
noncomputable def o212_4 : Params → Obj := fun P => { cls := Value.type "function", data := Data.func { name := Str.ofString "__eq__", qualname := Str.ofString "GenericPolynomial.__eq__", params := P_3_21, body := FuncBody.stmts B_3_21, scope := S_3_21, globals := 3, closure := [], defaults := Value.none, kwdefaults := Value.none, pyModule := Value.str (Str.ofString "kyber_py.polynomials.polynomials_generic") 194, code := Value.ref 211 } }
noncomputable def o213_4 : Params → Obj := fun P => { cls := Value.type "tuple", data := Data.seq #[] }
noncomputable def o214_4 : Params → Obj := fun P => { cls := Value.none, data := Data.fields #[] }
noncomputable def o215_4 : Params → Obj := fun P => { cls := Value.type "tuple", data := Data.seq #[Value.str (Str.ofString "self") 432, Value.str (Str.ofString "idx") 433] }
noncomputable def o216_4 : Params → Obj := fun P => { cls := Value.type "tuple", data := Data.seq #[] }
noncomputable def o217_4 : Params → Obj := fun P => { cls := Value.none, data := Data.func { name := Str.ofString "__getitem__", qualname := Str.ofString "GenericPolynomial.__getitem__", params := P_3_22, body := FuncBody.stmts B_3_22, scope := S_3_22, globals := 0, closure := [], defaults := Value.none, kwdefaults := Value.none } }
noncomputable def o218_4 : Params → Obj := fun P => { cls := Value.type "code", data := Data.fields #[Value.str (Str.ofString "__getitem__") 429, Value.str (Str.ofString "GenericPolynomial.__getitem__") 430, Value.str (Str.ofString "/claim/cut.py") 431, Value.int 149 0, Value.int 2 0, Value.int 0 0, Value.int 0 0, Value.int 3 0, Value.ref 213, Value.bool true, Value.int 181 0, Value.ref 214, Value.none, Value.ref 215, Value.ref 216, Value.ref 217, Value.int 434 0, Value.int 149 0, Value.str (Str.ofString "/claim/cut.py") 435] }
noncomputable def o219_4 : Params → Obj := fun P => { cls := Value.type "function", data := Data.func { name := Str.ofString "__getitem__", qualname := Str.ofString "GenericPolynomial.__getitem__", params := P_3_22, body := FuncBody.stmts B_3_22, scope := S_3_22, globals := 3, closure := [], defaults := Value.none, kwdefaults := Value.none, pyModule := Value.str (Str.ofString "kyber_py.polynomials.polynomials_generic") 194, code := Value.ref 218 } }
noncomputable def o220_4 : Params → Obj := fun P => { cls := Value.type "tuple", data := Data.seq #[Value.str (Str.ofString "coeffs") 437, Value.str (Str.ofString "parent") 438] }
noncomputable def o221_4 : Params → Obj := fun P => { cls := Value.type "dict", data := Data.dict #[{ hash := PyData.keyHash P (Str.ofString "__module__"), key := Value.str (Str.ofString "__module__") 256, val := Value.str (Str.ofString "kyber_py.polynomials.polynomials_generic") 194 }, { hash := PyData.keyHash P (Str.ofString "__firstlineno__"), key := Value.str (Str.ofString "__firstlineno__") 260, val := Value.int 23 259 }, { hash := PyData.keyHash P (Str.ofString "__init__"), key := Value.str (Str.ofString "__init__") 269, val := Value.ref 77 }, { hash := PyData.keyHash P (Str.ofString "is_zero"), key := Value.str (Str.ofString "is_zero") 276, val := Value.ref 84 }, { hash := PyData.keyHash P (Str.ofString "is_constant"), key := Value.str (Str.ofString "is_constant") 283, val := Value.ref 91 }, { hash := PyData.keyHash P (Str.ofString "_parse_coefficients"), key := Value.str (Str.ofString "_parse_coefficients") 289, val := Value.ref 96 }, { hash := PyData.keyHash P (Str.ofString "reduce_coefficients"), key := Value.str (Str.ofString "reduce_coefficients") 296, val := Value.ref 103 }, { hash := PyData.keyHash P (Str.ofString "_add_mod_q"), key := Value.str (Str.ofString "_add_mod_q") 305, val := Value.ref 110 }, { hash := PyData.keyHash P (Str.ofString "_sub_mod_q"), key := Value.str (Str.ofString "_sub_mod_q") 314, val := Value.ref 117 }, { hash := PyData.keyHash P (Str.ofString "_schoolbook_multiplication"), key := Value.str (Str.ofString "_schoolbook_multiplication") 320, val := Value.ref 122 }, { hash := PyData.keyHash P (Str.ofString "__neg__"), key := Value.str (Str.ofString "__neg__") 326, val := Value.ref 127 }, { hash := PyData.keyHash P (Str.ofString "_add_"), key := Value.str (Str.ofString "_add_") 332, val := Value.ref 132 }, { hash := PyData.keyHash P (Str.ofString "__add__"), key := Value.str (Str.ofString "__add__") 341, val := Value.ref 139 }, { hash := PyData.keyHash P (Str.ofString "__radd__"), key := Value.str (Str.ofString "__radd__") 349, val := Value.ref 146 }, { hash := PyData.keyHash P (Str.ofString "__iadd__"), key := Value.str (Str.ofString "__iadd__") 357, val := Value.ref 153 }, { hash := PyData.keyHash P (Str.ofString "_sub_"), key := Value.str (Str.ofString "_sub_") 363, val := Value.ref 158 }, { hash := PyData.keyHash P (Str.ofString "__sub__"), key := Value.str (Str.ofString "__sub__") 372, val := Value.ref 165 }, { hash := PyData.keyHash P (Str.ofString "__rsub__"), key := Value.str (Str.ofString "__rsub__") 380, val := Value.ref 172 }, { hash := PyData.keyHash P (Str.ofString "__isub__"), key := Value.str (Str.ofString "__isub__") 388, val := Value.ref 179 }, { hash := PyData.keyHash P (Str.ofString "__mul__"), key := Value.str (Str.ofString "__mul__") 394, val := Value.ref 184 }, { hash := PyData.keyHash P (Str.ofString "__rmul__"), key := Value.str (Str.ofString "__rmul__") 402, val := Value.ref 191 }, { hash := PyData.keyHash P (Str.ofString "__imul__"), key := Value.str (Str.ofString "__imul__") 410, val := Value.ref 198 }, { hash := PyData.keyHash P (Str.ofString "__pow__"), key := Value.str (Str.ofString "__pow__") 420, val := Value.ref 205 }, { hash := PyData.keyHash P (Str.ofString "__eq__"), key := Value.str (Str.ofString "__eq__") 428, val := Value.ref 212 }, { hash := PyData.keyHash P (Str.ofString "__getitem__"), key := Value.str (Str.ofString "__getitem__") 436, val := Value.ref 219 }, { hash := PyData.keyHash P (Str.ofString "__static_attributes__"), key := Value.str (Str.ofString "__static_attributes__") 439, val := Value.ref 220 }, { hash := PyData.keyHash P (Str.ofString "__dict__"), key := Value.str (Str.ofString "__dict__") 441, val := Value.ref 223 }, { hash := PyData.keyHash P (Str.ofString "__weakref__"), key := Value.str (Str.ofString "__weakref__") 443, val := Value.ref 224 }, { hash := PyData.keyHash P (Str.ofString "__doc__"), key := Value.str (Str.ofString "__doc__") 444, val := Value.none }, { hash := PyData.keyHash P (Str.ofString "__hash__"), key := Value.str (Str.ofString "__hash__") 445, val := Value.none }] 5 }
noncomputable def o222_4 : Params → Obj := fun P => { cls := Value.type "type", data := Data.cls { name := Str.ofString "GenericPolynomial", bases := [Value.type "object"], mro := [Value.ref 222, Value.type "object"], ns := 221, qualname := Str.ofString "GenericPolynomial" }, slots := #[none, none, some (Value.str (Str.ofString "GenericPolynomial") 249), some (Value.str (Str.ofString "GenericPolynomial") 257), some (Value.builtin "object.__new__"), some (Value.bool true)] }
noncomputable def o223_4 : Params → Obj := fun P => { cls := Value.type "getset_descriptor", data := Data.fields #[Value.str (Str.ofString "__dict__") 440, Value.ref 222, Value.builtin "function.__dict__", Value.builtin "function.__dict__#set"] }
noncomputable def o224_4 : Params → Obj := fun P => { cls := Value.type "getset_descriptor", data := Data.fields #[Value.str (Str.ofString "__weakref__") 442, Value.ref 222, Value.builtin "ExceptionGroup.__weakref__", Value.none] }
noncomputable def o225_4 : Params → Obj := fun P => { cls := Value.type "super", data := Data.fields #[Value.ref 222, Value.ref 222, Value.ref 222] }
noncomputable def o226_4 : Params → Obj := fun P => { cls := Value.type "builtin_function_or_method", data := Data.fields #[Value.builtin "object.__init_subclass__", Value.ref 222] }
noncomputable def T4 : Params → BT := fun P => (.node (o0_a P) (.node (o1_a P) (.node (o3_4 P) (.node (o7_a P) (.node (o15_2 P) (.node (o31_2 P) (.node (o63_2 P) (.node (o127_4 P) .nil .nil) (.node (o191_4 P) .nil .nil)) (.node (o95_4 P) (.node (o159_4 P) .nil .nil) (.node (o223_4 P) .nil .nil))) (.node (o47_2 P) (.node (o79_4 P) (.node (o143_4 P) .nil .nil) (.node (o207_4 P) .nil .nil)) (.node (o111_4 P) (.node (o175_4 P) .nil .nil) .nil))) (.node (o23_2 P) (.node (o39_2 P) (.node (o71_4 P) (.node (o135_4 P) .nil .nil) (.node (o199_4 P) .nil .nil)) (.node (o103_4 P) (.node (o167_4 P) .nil .nil) .nil)) (.node (o55_2 P) (.node (o87_4 P) (.node (o151_4 P) .nil .nil) (.node (o215_4 P) .nil .nil)) (.node (o119_4 P) (.node (o183_4 P) .nil .nil) .nil)))) (.node (o11_a P) (.node (o19_2 P) (.node (o35_2 P) (.node (o67_4 P) (.node (o131_4 P) .nil .nil) (.node (o195_4 P) .nil .nil)) (.node (o99_4 P) (.node (o163_4 P) .nil .nil) .nil)) (.node (o51_2 P) (.node (o83_4 P) (.node (o147_4 P) .nil .nil) (.node (o211_4 P) .nil .nil)) (.node (o115_4 P) (.node (o179_4 P) .nil .nil) .nil))) (.node (o27_2 P) (.node (o43_2 P) (.node (o75_4 P) (.node (o139_4 P) .nil .nil) (.node (o203_4 P) .nil .nil)) (.node (o107_4 P) (.node (o171_4 P) .nil .nil) .nil)) (.node (o59_2 P) (.node (o91_4 P) (.node (o155_4 P) .nil .nil) (.node (o219_4 P) .nil .nil)) (.node (o123_4 P) (.node (o187_4 P) .nil .nil) .nil))))) (.node (o5_a P) (.node (o9_a P) (.node (o17_2 P) (.node (o33_2 P) (.node (o65_4 P) (.node (o129_4 P) .nil .nil) (.node (o193_4 P) .nil .nil)) (.node (o97_4 P) (.node (o161_4 P) .nil .nil) (.node (o225_4 P) .nil .nil))) (.node (o49_2 P) (.node (o81_4 P) (.node (o145_4 P) .nil .nil) (.node (o209_4 P) .nil .nil)) (.node (o113_4 P) (.node (o177_4 P) .nil .nil) .nil))) (.node (o25_2 P) (.node (o41_2 P) (.node (o73_4 P) (.node (o137_4 P) .nil .nil) (.node (o201_4 P) .nil .nil)) (.node (o105_4 P) (.node (o169_4 P) .nil .nil) .nil)) (.node (o57_2 P) (.node (o89_4 P) (.node (o153_4 P) .nil .nil) (.node (o217_4 P) .nil .nil)) (.node (o121_4 P) (.node (o185_4 P) .nil .nil) .nil)))) (.node (o13_a P) (.node (o21_2 P) (.node (o37_2 P) (.node (o69_4 P) (.node (o133_4 P) .nil .nil) (.node (o197_4 P) .nil .nil)) (.node (o101_4 P) (.node (o165_4 P) .nil .nil) .nil)) (.node (o53_2 P) (.node (o85_4 P) (.node (o149_4 P) .nil .nil) (.node (o213_4 P) .nil .nil)) (.node (o117_4 P) (.node (o181_4 P) .nil .nil) .nil))) (.node (o29_2 P) (.node (o45_2 P) (.node (o77_4 P) (.node (o141_4 P) .nil .nil) (.node (o205_4 P) .nil .nil)) (.node (o109_4 P) (.node (o173_4 P) .nil .nil) .nil)) (.node (o61_2 P) (.node (o93_4 P) (.node (o157_4 P) .nil .nil) (.node (o221_4 P) .nil .nil)) (.node (o125_4 P) (.node (o189_4 P) .nil .nil) .nil)))))) (.node (o2_a P) (.node (o4_a P) (.node (o8_a P) (.node (o16_2 P) (.node (o32_2 P) (.node (o64_4 P) (.node (o128_4 P) .nil .nil) (.node (o192_4 P) .nil .nil)) (.node (o96_4 P) (.node (o160_4 P) .nil .nil) (.node (o224_4 P) .nil .nil))) (.node (o48_2 P) (.node (o80_4 P) (.node (o144_4 P) .nil .nil) (.node (o208_4 P) .nil .nil)) (.node (o112_4 P) (.node (o176_4 P) .nil .nil) .nil))) (.node (o24_2 P) (.node (o40_2 P) (.node (o72_4 P) (.node (o136_4 P) .nil .nil) (.node (o200_4 P) .nil .nil)) (.node (o104_4 P) (.node (o168_4 P) .nil .nil) .nil)) (.node (o56_2 P) (.node (o88_4 P) (.node (o152_4 P) .nil .nil) (.node (o216_4 P) .nil .nil)) (.node (o120_4 P) (.node (o184_4 P) .nil .nil) .nil)))) (.node (o12_4 P) (.node (o20_2 P) (.node (o36_2 P) (.node (o68_4 P) (.node (o132_4 P) .nil .nil) (.node (o196_4 P) .nil .nil)) (.node (o100_4 P) (.node (o164_4 P) .nil .nil) .nil)) (.node (o52_2 P) (.node (o84_4 P) (.node (o148_4 P) .nil .nil) (.node (o212_4 P) .nil .nil)) (.node (o116_4 P) (.node (o180_4 P) .nil .nil) .nil))) (.node (o28_2 P) (.node (o44_2 P) (.node (o76_4 P) (.node (o140_4 P) .nil .nil) (.node (o204_4 P) .nil .nil)) (.node (o108_4 P) (.node (o172_4 P) .nil .nil) .nil)) (.node (o60_2 P) (.node (o92_4 P) (.node (o156_4 P) .nil .nil) (.node (o220_4 P) .nil .nil)) (.node (o124_4 P) (.node (o188_4 P) .nil .nil) .nil))))) (.node (o6_a P) (.node (o10_a P) (.node (o18_2 P) (.node (o34_2 P) (.node (o66_4 P) (.node (o130_4 P) .nil .nil) (.node (o194_4 P) .nil .nil)) (.node (o98_4 P) (.node (o162_4 P) .nil .nil) (.node (o226_4 P) .nil .nil))) (.node (o50_2 P) (.node (o82_4 P) (.node (o146_4 P) .nil .nil) (.node (o210_4 P) .nil .nil)) (.node (o114_4 P) (.node (o178_4 P) .nil .nil) .nil))) (.node (o26_2 P) (.node (o42_2 P) (.node (o74_4 P) (.node (o138_4 P) .nil .nil) (.node (o202_4 P) .nil .nil)) (.node (o106_4 P) (.node (o170_4 P) .nil .nil) .nil)) (.node (o58_2 P) (.node (o90_4 P) (.node (o154_4 P) .nil .nil) (.node (o218_4 P) .nil .nil)) (.node (o122_4 P) (.node (o186_4 P) .nil .nil) .nil)))) (.node (o14_a P) (.node (o22_2 P) (.node (o38_2 P) (.node (o70_4 P) (.node (o134_4 P) .nil .nil) (.node (o198_4 P) .nil .nil)) (.node (o102_4 P) (.node (o166_4 P) .nil .nil) .nil)) (.node (o54_2 P) (.node (o86_4 P) (.node (o150_4 P) .nil .nil) (.node (o214_4 P) .nil .nil)) (.node (o118_4 P) (.node (o182_4 P) .nil .nil) .nil))) (.node (o30_2 P) (.node (o46_2 P) (.node (o78_4 P) (.node (o142_4 P) .nil .nil) (.node (o206_4 P) .nil .nil)) (.node (o110_4 P) (.node (o174_4 P) .nil .nil) .nil)) (.node (o62_2 P) (.node (o94_4 P) (.node (o158_4 P) .nil .nil) (.node (o222_4 P) .nil .nil)) (.node (o126_4 P) (.node (o190_4 P) .nil .nil) .nil)))))))
noncomputable def C4 (P : Params) (os : OsState) : SharedT := ⟨T4 P, nat_lit 227, (boot_heap P).life, #[], boot_drawn, nat_lit 450, os⟩
abbrev pos4 : Pos := { line := 151, col := 0, endLine := 151, endCol := 8 }
noncomputable def o3_5 : Params → Obj := fun P => { cls := Value.type "dict", data := Data.dict #[{ hash := PyData.keyHash P (Str.ofString "__name__"), key := Value.str (Str.ofString "__name__") 165, val := Value.str (Str.ofString "kyber_py.polynomials.polynomials") 448 }, { hash := PyData.keyHash P (Str.ofString "__doc__"), key := Value.str (Str.ofString "__doc__") 166, val := Value.none }, { hash := PyData.keyHash P (Str.ofString "__package__"), key := Value.str (Str.ofString "__package__") 167, val := Value.none }, { hash := PyData.keyHash P (Str.ofString "__loader__"), key := Value.str (Str.ofString "__loader__") 168, val := Value.builtin "__main__.__loader__#opaque" }, { hash := PyData.keyHash P (Str.ofString "__spec__"), key := Value.str (Str.ofString "__spec__") 169, val := Value.none }, { hash := PyData.keyHash P (Str.ofString "__annotations__"), key := Value.str (Str.ofString "__annotations__") 170, val := Value.ref 6 }, { hash := PyData.keyHash P (Str.ofString "__builtins__"), key := Value.str (Str.ofString "__builtins__") 171, val := Value.ref 4 }, { hash := PyData.keyHash P (Str.ofString "__file__"), key := Value.str (Str.ofString "__file__") 173, val := Value.str (Str.ofString "/claim/cut.py") 172 }, { hash := PyData.keyHash P (Str.ofString "__cached__"), key := Value.str (Str.ofString "__cached__") 174, val := Value.none }, { hash := PyData.keyHash P (Str.ofString "_wall"), key := Value.str (Str.ofString "_wall") 193, val := Value.ref 21 }, { hash := PyData.keyHash P (Str.ofString "GenericPolynomialRing"), key := Value.str (Str.ofString "GenericPolynomialRing") 248, val := Value.ref 59 }, { hash := PyData.keyHash P (Str.ofString "GenericPolynomial"), key := Value.str (Str.ofString "GenericPolynomial") 447, val := Value.ref 222 }, { hash := PyData.keyHash P (Str.ofString "PolynomialRing"), key := Value.str (Str.ofString "PolynomialRing") 533, val := Value.ref 282 }] 13 }
noncomputable def o12_5 : Params → Obj := fun P => { cls := Value.none, data := Data.fields #[Value.int 1 0, Value.int 0 0, Value.ref 20, Value.int 5 0, Value.int 0 0, Value.ref 27, Value.int 23 0, Value.int 0 0, Value.ref 69, Value.int 152 0, Value.int 0 0, Value.ref 232] }
noncomputable def o59_5 : Params → Obj := fun P => { cls := Value.type "type", data := Data.cls { name := Str.ofString "GenericPolynomialRing", bases := [Value.type "object"], mro := [Value.ref 59, Value.type "object"], ns := 58, qualname := Str.ofString "GenericPolynomialRing", subclasses := [Value.ref 282] }, slots := #[none, none, some (Value.str (Str.ofString "GenericPolynomialRing") 196), some (Value.str (Str.ofString "GenericPolynomialRing") 204), some (Value.builtin "object.__new__"), some (Value.bool true)] }
noncomputable def o227_5 : Params → Obj := fun P => { cls := Value.type "tuple", data := Data.seq #[Value.ref 59] }
noncomputable def o228_5 : Params → Obj := fun P => { cls := Value.type "builtin_function_or_method", data := Data.fields #[Value.builtin "type.__prepare__", Value.type "type"] }
noncomputable def o229_5 : Params → Obj := fun P => { cls := Value.type "dict", data := Data.dict #[{ hash := PyData.keyHash P (Str.ofString "__module__"), key := Value.str (Str.ofString "__module__") 457, val := Value.str (Str.ofString "kyber_py.polynomials.polynomials") 448 }, { hash := PyData.keyHash P (Str.ofString "__qualname__"), key := Value.str (Str.ofString "__qualname__") 459, val := Value.str (Str.ofString "PolynomialRing") 458 }, { hash := PyData.keyHash P (Str.ofString "__firstlineno__"), key := Value.str (Str.ofString "__firstlineno__") 461, val := Value.int 152 460 }, { hash := PyData.keyHash P (Str.ofString "__init__"), key := Value.str (Str.ofString "__init__") 467, val := Value.ref 238 }, { hash := PyData.keyHash P (Str.ofString "_br"), key := Value.str (Str.ofString "_br") 488, val := Value.ref 247 }, { hash := PyData.keyHash P (Str.ofString "ntt_sample"), key := Value.str (Str.ofString "ntt_sample") 496, val := Value.ref 255 }, { hash := PyData.keyHash P (Str.ofString "cbd"), key := Value.str (Str.ofString "cbd") 506, val := Value.ref 263 }, { hash := PyData.keyHash P (Str.ofString "decode"), key := Value.str (Str.ofString "decode") 516, val := Value.ref 271 }, { hash := PyData.keyHash P (Str.ofString "__call__"), key := Value.str (Str.ofString "__call__") 525, val := Value.ref 279 }, { hash := PyData.keyHash P (Str.ofString "__static_attributes__"), key := Value.str (Str.ofString "__static_attributes__") 530, val := Value.ref 280 }] 10 }
noncomputable def o230_5 : Params → Obj := fun P => { cls := Value.type "tuple", data := Data.seq #[] }
noncomputable def o231_5 : Params → Obj := fun P => { cls := Value.none, data := Data.fields #[Value.int 154 0, Value.int 4 0, Value.ref 237, Value.int 162 0, Value.int 4 0, Value.ref 244, Value.int 166 0, Value.int 4 0, Value.ref 254, Value.int 169 0, Value.int 4 0, Value.ref 262, Value.int 172 0, Value.int 4 0, Value.ref 270, Value.int 175 0, Value.int 4 0, Value.ref 278] }
noncomputable def o232_5 : Params → Obj := fun P => { cls := Value.type "code", data := Data.fields #[Value.str (Str.ofString "PolynomialRing") 452, Value.str (Str.ofString "PolynomialRing") 453, Value.str (Str.ofString "/claim/cut.py") 454, Value.int 152 0, Value.int 0 0, Value.int 0 0, Value.int 0 0, Value.int 0 0, Value.ref 230, Value.bool false, Value.int 181 0, Value.ref 231, Value.none, Value.none, Value.none, Value.none, Value.int 455 0, Value.int 152 0, Value.str (Str.ofString "/claim/cut.py") 456] }
noncomputable def o233_5 : Params → Obj := fun P => { cls := Value.type "frame", slots := #[some (Value.ref 232), some (Value.ref 3), some (Value.ref 229), none, some (Value.str (Str.ofString "kyber_py.polynomials.polynomials") 448), none, some (Value.ref 0)] }
noncomputable def o234_5 : Params → Obj := fun P => { cls := Value.type "tuple", data := Data.seq #[] }
noncomputable def o235_5 : Params → Obj := fun P => { cls := Value.none, data := Data.fields #[] }
noncomputable def o236_5 : Params → Obj := fun P => { cls := Value.none, data := Data.func { name := Str.ofString "__init__", qualname := Str.ofString "PolynomialRing.__init__", params := P_5_0, body := FuncBody.stmts B_5_0, scope := S_5_0, globals := 0, closure := [], defaults := Value.none, kwdefaults := Value.none } }
noncomputable def o237_5 : Params → Obj := fun P => { cls := Value.type "code", data := Data.fields #[Value.str (Str.ofString "__init__") 462, Value.str (Str.ofString "PolynomialRing.__init__") 463, Value.str (Str.ofString "/claim/cut.py") 464, Value.int 154 0, Value.int 1 0, Value.int 0 0, Value.int 0 0, Value.int 3 0, Value.ref 234, Value.bool true, Value.int 181 0, Value.ref 235, Value.none, Value.none, Value.none, Value.ref 236, Value.int 465 0, Value.int 154 0, Value.str (Str.ofString "/claim/cut.py") 466] }
noncomputable def o238_5 : Params → Obj := fun P => { cls := Value.type "function", data := Data.func { name := Str.ofString "__init__", qualname := Str.ofString "PolynomialRing.__init__", params := P_5_0, body := FuncBody.stmts B_5_0, scope := S_5_0, globals := 3, closure := [], defaults := Value.none, kwdefaults := Value.none, pyModule := Value.str (Str.ofString "kyber_py.polynomials.polynomials") 448, code := Value.ref 237 } }
noncomputable def o239_5 : Params → Obj := fun P => { cls := Value.type "tuple", data := Data.seq #[] }
noncomputable def o240_5 : Params → Obj := fun P => { cls := Value.none, data := Data.fields #[] }
noncomputable def o241_5 : Params → Obj := fun P => { cls := Value.type "tuple", data := Data.seq #[Value.str (Str.ofString "i") 471, Value.str (Str.ofString "k") 472, Value.str (Str.ofString "bin_i") 473] }
noncomputable def o242_5 : Params → Obj := fun P => { cls := Value.type "tuple", data := Data.seq #[] }
noncomputable def o243_5 : Params → Obj := fun P => { cls := Value.none, data := Data.func { name := Str.ofString "_br", qualname := Str.ofString "PolynomialRing._br", params := P_5_1, body := FuncBody.stmts B_5_1, scope := S_5_1, globals := 0, closure := [], defaults := Value.none, kwdefaults := Value.none } }
noncomputable def o244_5 : Params → Obj := fun P => { cls := Value.type "code", data := Data.fields #[Value.str (Str.ofString "_br") 468, Value.str (Str.ofString "PolynomialRing._br") 469, Value.str (Str.ofString "/claim/cut.py") 470, Value.int 161 0, Value.int 2 0, Value.int 0 0, Value.int 0 0, Value.int 3 0, Value.ref 239, Value.bool true, Value.int 181 0, Value.ref 240, Value.none, Value.ref 241, Value.ref 242, Value.ref 243, Value.int 474 0, Value.int 161 0, Value.str (Str.ofString "/claim/cut.py") 475] }
noncomputable def o245_5 : Params → Obj := fun P => { cls := Value.type "function", data := Data.func { name := Str.ofString "_br", qualname := Str.ofString "PolynomialRing._br", params := P_5_1, body := FuncBody.stmts B_5_1, scope := S_5_1, globals := 3, closure := [], defaults := Value.none, kwdefaults := Value.none, pyModule := Value.str (Str.ofString "kyber_py.polynomials.polynomials") 448, annotations := some 248, code := Value.ref 244 } }
noncomputable def o246_5 : Params → Obj := fun P => { cls := Value.type "dict", data := Data.dict #[{ hash := PyData.keyHash P (Str.ofString "__module__"), key := Value.str (Str.ofString "__module__") 477, val := Value.str (Str.ofString "kyber_py.polynomials.polynomials") 448 }, { hash := PyData.keyHash P (Str.ofString "__name__"), key := Value.str (Str.ofString "__name__") 480, val := Value.str (Str.ofString "_br") 479 }, { hash := PyData.keyHash P (Str.ofString "__qualname__"), key := Value.str (Str.ofString "__qualname__") 483, val := Value.str (Str.ofString "PolynomialRing._br") 482 }, { hash := PyData.keyHash P (Str.ofString "__doc__"), key := Value.str (Str.ofString "__doc__") 485, val := Value.none }, { hash := PyData.keyHash P (Str.ofString "__annotations__"), key := Value.str (Str.ofString "__annotations__") 487, val := Value.ref 248 }] 5 }
noncomputable def o247_5 : Params → Obj := fun P => { cls := Value.type "staticmethod", dict := some 246, data := Data.fields #[Value.ref 245, Value.bool false] }
noncomputable def o248_5 : Params → Obj := fun P => { cls := Value.type "dict", data := Data.dict #[] }
noncomputable def o249_5 : Params → Obj := fun P => { cls := Value.type "tuple", data := Data.seq #[] }
noncomputable def o250_5 : Params → Obj := fun P => { cls := Value.none, data := Data.fields #[] }
noncomputable def o251_5 : Params → Obj := fun P => { cls := Value.type "tuple", data := Data.seq #[Value.str (Str.ofString "self") 492, Value.str (Str.ofString "input_bytes") 493] }
noncomputable def o252_5 : Params → Obj := fun P => { cls := Value.type "tuple", data := Data.seq #[] }
noncomputable def o253_5 : Params → Obj := fun P => { cls := Value.none, data := Data.func { name := Str.ofString "ntt_sample", qualname := Str.ofString "PolynomialRing.ntt_sample", params := P_5_2, body := FuncBody.stmts B_5_2, scope := S_5_2, globals := 0, closure := [], defaults := Value.none, kwdefaults := Value.none } }
noncomputable def o254_5 : Params → Obj := fun P => { cls := Value.type "code", data := Data.fields #[Value.str (Str.ofString "ntt_sample") 489, Value.str (Str.ofString "PolynomialRing.ntt_sample") 490, Value.str (Str.ofString "/claim/cut.py") 491, Value.int 166 0, Value.int 2 0, Value.int 0 0, Value.int 0 0, Value.int 3 0, Value.ref 249, Value.bool true, Value.int 181 0, Value.ref 250, Value.none, Value.ref 251, Value.ref 252, Value.ref 253, Value.int 494 0, Value.int 166 0, Value.str (Str.ofString "/claim/cut.py") 495] }
noncomputable def o255_5 : Params → Obj := fun P => { cls := Value.type "function", data := Data.func { name := Str.ofString "ntt_sample", qualname := Str.ofString "PolynomialRing.ntt_sample", params := P_5_2, body := FuncBody.stmts B_5_2, scope := S_5_2, globals := 3, closure := [], defaults := Value.none, kwdefaults := Value.none, pyModule := Value.str (Str.ofString "kyber_py.polynomials.polynomials") 448, code := Value.ref 254 } }
noncomputable def o256_5 : Params → Obj := fun P => { cls := Value.type "tuple", data := Data.seq #[Value.bool false] }
noncomputable def o257_5 : Params → Obj := fun P => { cls := Value.type "tuple", data := Data.seq #[] }
noncomputable def o258_5 : Params → Obj := fun P => { cls := Value.none, data := Data.fields #[] }
noncomputable def o259_5 : Params → Obj := fun P => { cls := Value.type "tuple", data := Data.seq #[Value.str (Str.ofString "self") 500, Value.str (Str.ofString "input_bytes") 501, Value.str (Str.ofString "eta") 502, Value.str (Str.ofString "is_ntt") 503] }
noncomputable def o260_5 : Params → Obj := fun P => { cls := Value.type "tuple", data := Data.seq #[] }
noncomputable def o261_5 : Params → Obj := fun P => { cls := Value.none, data := Data.func { name := Str.ofString "cbd", qualname := Str.ofString "PolynomialRing.cbd", params := P_5_3, body := FuncBody.stmts B_5_3, scope := S_5_3, globals := 0, closure := [], defaults := Value.none, kwdefaults := Value.none } }
noncomputable def o262_5 : Params → Obj := fun P => { cls := Value.type "code", data := Data.fields #[Value.str (Str.ofString "cbd") 497, Value.str (Str.ofString "PolynomialRing.cbd") 498, Value.str (Str.ofString "/claim/cut.py") 499, Value.int 169 0, Value.int 4 0, Value.int 0 0, Value.int 0 0, Value.int 3 0, Value.ref 257, Value.bool true, Value.int 181 0, Value.ref 258, Value.none, Value.ref 259, Value.ref 260, Value.ref 261, Value.int 504 0, Value.int 169 0, Value.str (Str.ofString "/claim/cut.py") 505] }
noncomputable def o263_5 : Params → Obj := fun P => { cls := Value.type "function", data := Data.func { name := Str.ofString "cbd", qualname := Str.ofString "PolynomialRing.cbd", params := P_5_3, body := FuncBody.stmts B_5_3, scope := S_5_3, globals := 3, closure := [], defaults := Value.ref 256, kwdefaults := Value.none, pyModule := Value.str (Str.ofString "kyber_py.polynomials.polynomials") 448, code := Value.ref 262 } }
noncomputable def o264_5 : Params → Obj := fun P => { cls := Value.type "tuple", data := Data.seq #[Value.bool false] }
noncomputable def o265_5 : Params → Obj := fun P => { cls := Value.type "tuple", data := Data.seq #[] }
noncomputable def o266_5 : Params → Obj := fun P => { cls := Value.none, data := Data.fields #[] }
noncomputable def o267_5 : Params → Obj := fun P => { cls := Value.type "tuple", data := Data.seq #[Value.str (Str.ofString "self") 510, Value.str (Str.ofString "input_bytes") 511, Value.str (Str.ofString "d") 512, Value.str (Str.ofString "is_ntt") 513] }
noncomputable def o268_5 : Params → Obj := fun P => { cls := Value.type "tuple", data := Data.seq #[] }
noncomputable def o269_5 : Params → Obj := fun P => { cls := Value.none, data := Data.func { name := Str.ofString "decode", qualname := Str.ofString "PolynomialRing.decode", params := P_5_4, body := FuncBody.stmts B_5_4, scope := S_5_4, globals := 0, closure := [], defaults := Value.none, kwdefaults := Value.none } }
noncomputable def o270_5 : Params → Obj := fun P => { cls := Value.type "code", data := Data.fields #[Value.str (Str.ofString "decode") 507, Value.str (Str.ofString "PolynomialRing.decode") 508, Value.str (Str.ofString "/claim/cut.py") 509, Value.int 172 0, Value.int 4 0, Value.int 0 0, Value.int 0 0, Value.int 3 0, Value.ref 265, Value.bool true, Value.int 181 0, Value.ref 266, Value.none, Value.ref 267, Value.ref 268, Value.ref 269, Value.int 514 0, Value.int 172 0, Value.str (Str.ofString "/claim/cut.py") 515] }
noncomputable def o271_5 : Params → Obj := fun P => { cls := Value.type "function", data := Data.func { name := Str.ofString "decode", qualname := Str.ofString "PolynomialRing.decode", params := P_5_4, body := FuncBody.stmts B_5_4, scope := S_5_4, globals := 3, closure := [], defaults := Value.ref 264, kwdefaults := Value.none, pyModule := Value.str (Str.ofString "kyber_py.polynomials.polynomials") 448, code := Value.ref 270 } }
noncomputable def o272_5 : Params → Obj := fun P => { cls := Value.type "tuple", data := Data.seq #[Value.bool false] }
noncomputable def o273_5 : Params → Obj := fun P => { cls := Value.type "tuple", data := Data.seq #[] }
noncomputable def o274_5 : Params → Obj := fun P => { cls := Value.none, data := Data.fields #[] }
noncomputable def o275_5 : Params → Obj := fun P => { cls := Value.type "tuple", data := Data.seq #[Value.str (Str.ofString "self") 520, Value.str (Str.ofString "coefficients") 521, Value.str (Str.ofString "is_ntt") 522] }
noncomputable def o276_5 : Params → Obj := fun P => { cls := Value.type "tuple", data := Data.seq #[] }
noncomputable def o277_5 : Params → Obj := fun P => { cls := Value.none, data := Data.func { name := Str.ofString "__call__", qualname := Str.ofString "PolynomialRing.__call__", params := P_5_5, body := FuncBody.stmts B_5_5, scope := S_5_5, globals := 0, closure := [], defaults := Value.none, kwdefaults := Value.none } }
noncomputable def o278_5 : Params → Obj := fun P => { cls := Value.type "code", data := Data.fields #[Value.str (Str.ofString "__call__") 517, Value.str (Str.ofString "PolynomialRing.__call__") 518, Value.str (Str.ofString "/claim/cut.py") 519, Value.int 175 0, Value.int 3 0, Value.int 0 0, Value.int 0 0, Value.int 3 0, Value.ref 273, Value.bool true, Value.int 181 0, Value.ref 274, Value.none, Value.ref 275, Value.ref 276, Value.ref 277, Value.int 523 0, Value.int 175 0, Value.str (Str.ofString "/claim/cut.py") 524] }
noncomputable def o279_5 : Params → Obj := fun P => { cls := Value.type "function", data := Data.func { name := Str.ofString "__call__", qualname := Str.ofString "PolynomialRing.__call__", params := P_5_5, body := FuncBody.stmts B_5_5, scope := S_5_5, globals := 3, closure := [], defaults := Value.ref 272, kwdefaults := Value.none, pyModule := Value.str (Str.ofString "kyber_py.polynomials.polynomials") 448, code := Value.ref 278 } }
noncomputable def o280_5 : Params → Obj := fun P => { cls := Value.type "tuple", data := Data.seq #[Value.str (Str.ofString "n") 526, Value.str (Str.ofString "ntt_f") 527, Value.str (Str.ofString "ntt_zetas") 528, Value.str (Str.ofString "q") 529] }
noncomputable def o281_5 : Params → Obj := fun P => { cls := Value.type "dict", data := Data.dict #[{ hash := PyData.keyHash P (Str.ofString "__module__"), key := Value.str (Str.ofString "__module__") 457, val := Value.str (Str.ofString "kyber_py.polynomials.polynomials") 448 }, { hash := PyData.keyHash P (Str.ofString "__firstlineno__"), key := Value.str (Str.ofString "__firstlineno__") 461, val := Value.int 152 460 }, { hash := PyData.keyHash P (Str.ofString "__init__"), key := Value.str (Str.ofString "__init__") 467, val := Value.ref 238 }, { hash := PyData.keyHash P (Str.ofString "_br"), key := Value.str (Str.ofString "_br") 488, val := Value.ref 247 }, { hash := PyData.keyHash P (Str.ofString "ntt_sample"), key := Value.str (Str.ofString "ntt_sample") 496, val := Value.ref 255 }, { hash := PyData.keyHash P (Str.ofString "cbd"), key := Value.str (Str.ofString "cbd") 506, val := Value.ref 263 }, { hash := PyData.keyHash P (Str.ofString "decode"), key := Value.str (Str.ofString "decode") 516, val := Value.ref 271 }, { hash := PyData.keyHash P (Str.ofString "__call__"), key := Value.str (Str.ofString "__call__") 525, val := Value.ref 279 }, { hash := PyData.keyHash P (Str.ofString "__static_attributes__"), key := Value.str (Str.ofString "__static_attributes__") 530, val := Value.ref 280 }, { hash := PyData.keyHash P (Str.ofString "__doc__"), key := Value.str (Str.ofString "__doc__") 531, val := Value.none }] 2 }
noncomputable def o282_5 : Params → Obj := fun P => { cls := Value.type "type", data := Data.cls { name := Str.ofString "PolynomialRing", bases := [Value.ref 59], mro := [Value.ref 282, Value.ref 59, Value.type "object"], ns := 281, qualname := Str.ofString "PolynomialRing" }, slots := #[some (Value.ref 227), none, some (Value.str (Str.ofString "PolynomialRing") 450), some (Value.str (Str.ofString "PolynomialRing") 458), some (Value.builtin "object.__new__"), some (Value.bool true)] }
noncomputable def o283_5 : Params → Obj := fun P => { cls := Value.type "super", data := Data.fields #[Value.ref 282, Value.ref 282, Value.ref 282] }
noncomputable def o284_5 : Params → Obj := fun P => { cls := Value.type "builtin_function_or_method", data := Data.fields #[Value.builtin "object.__init_subclass__", Value.ref 282] }
noncomputable def T5 : Params → BT := fun P => (.node (o0_a P) (.node (o1_a P) (.node (o3_5 P) (.node (o7_a P) (.node (o15_2 P) (.node (o31_2 P) (.node (o63_2 P) (.node (o127_4 P) (.node (o255_5 P) .nil .nil) .nil) (.node (o191_4 P) .nil .nil)) (.node (o95_4 P) (.node (o159_4 P) .nil .nil) (.node (o223_4 P) .nil .nil))) (.node (o47_2 P) (.node (o79_4 P) (.node (o143_4 P) (.node (o271_5 P) .nil .nil) .nil) (.node (o207_4 P) .nil .nil)) (.node (o111_4 P) (.node (o175_4 P) .nil .nil) (.node (o239_5 P) .nil .nil)))) (.node (o23_2 P) (.node (o39_2 P) (.node (o71_4 P) (.node (o135_4 P) (.node (o263_5 P) .nil .nil) .nil) (.node (o199_4 P) .nil .nil)) (.node (o103_4 P) (.node (o167_4 P) .nil .nil) (.node (o231_5 P) .nil .nil))) (.node (o55_2 P) (.node (o87_4 P) (.node (o151_4 P) (.node (o279_5 P) .nil .nil) .nil) (.node (o215_4 P) .nil .nil)) (.node (o119_4 P) (.node (o183_4 P) .nil .nil) (.node (o247_5 P) .nil .nil))))) (.node (o11_a P) (.node (o19_2 P) (.node (o35_2 P) (.node (o67_4 P) (.node (o131_4 P) (.node (o259_5 P) .nil .nil) .nil) (.node (o195_4 P) .nil .nil)) (.node (o99_4 P) (.node (o163_4 P) .nil .nil) (.node (o227_5 P) .nil .nil))) (.node (o51_2 P) (.node (o83_4 P) (.node (o147_4 P) (.node (o275_5 P) .nil .nil) .nil) (.node (o211_4 P) .nil .nil)) (.node (o115_4 P) (.node (o179_4 P) .nil .nil) (.node (o243_5 P) .nil .nil)))) (.node (o27_2 P) (.node (o43_2 P) (.node (o75_4 P) (.node (o139_4 P) (.node (o267_5 P) .nil .nil) .nil) (.node (o203_4 P) .nil .nil)) (.node (o107_4 P) (.node (o171_4 P) .nil .nil) (.node (o235_5 P) .nil .nil))) (.node (o59_5 P) (.node (o91_4 P) (.node (o155_4 P) (.node (o283_5 P) .nil .nil) .nil) (.node (o219_4 P) .nil .nil)) (.node (o123_4 P) (.node (o187_4 P) .nil .nil) (.node (o251_5 P) .nil .nil)))))) (.node (o5_a P) (.node (o9_a P) (.node (o17_2 P) (.node (o33_2 P) (.node (o65_4 P) (.node (o129_4 P) (.node (o257_5 P) .nil .nil) .nil) (.node (o193_4 P) .nil .nil)) (.node (o97_4 P) (.node (o161_4 P) .nil .nil) (.node (o225_4 P) .nil .nil))) (.node (o49_2 P) (.node (o81_4 P) (.node (o145_4 P) (.node (o273_5 P) .nil .nil) .nil) (.node (o209_4 P) .nil .nil)) (.node (o113_4 P) (.node (o177_4 P) .nil .nil) (.node (o241_5 P) .nil .nil)))) (.node (o25_2 P) (.node (o41_2 P) (.node (o73_4 P) (.node (o137_4 P) (.node (o265_5 P) .nil .nil) .nil) (.node (o201_4 P) .nil .nil)) (.node (o105_4 P) (.node (o169_4 P) .nil .nil) (.node (o233_5 P) .nil .nil))) (.node (o57_2 P) (.node (o89_4 P) (.node (o153_4 P) (.node (o281_5 P) .nil .nil) .nil) (.node (o217_4 P) .nil .nil)) (.node (o121_4 P) (.node (o185_4 P) .nil .nil) (.node (o249_5 P) .nil .nil))))) (.node (o13_a P) (.node (o21_2 P) (.node (o37_2 P) (.node (o69_4 P) (.node (o133_4 P) (.node (o261_5 P) .nil .nil) .nil) (.node (o197_4 P) .nil .nil)) (.node (o101_4 P) (.node (o165_4 P) .nil .nil) (.node (o229_5 P) .nil .nil))) (.node (o53_2 P) (.node (o85_4 P) (.node (o149_4 P) (.node (o277_5 P) .nil .nil) .nil) (.node (o213_4 P) .nil .nil)) (.node (o117_4 P) (.node (o181_4 P) .nil .nil) (.node (o245_5 P) .nil .nil)))) (.node (o29_2 P) (.node (o45_2 P) (.node (o77_4 P) (.node (o141_4 P) (.node (o269_5 P) .nil .nil) .nil) (.node (o205_4 P) .nil .nil)) (.node (o109_4 P) (.node (o173_4 P) .nil .nil) (.node (o237_5 P) .nil .nil))) (.node (o61_2 P) (.node (o93_4 P) (.node (o157_4 P) .nil .nil) (.node (o221_4 P) .nil .nil)) (.node (o125_4 P) (.node (o189_4 P) .nil .nil) (.node (o253_5 P) .nil .nil))))))) (.node (o2_a P) (.node (o4_a P) (.node (o8_a P) (.node (o16_2 P) (.node (o32_2 P) (.node (o64_4 P) (.node (o128_4 P) (.node (o256_5 P) .nil .nil) .nil) (.node (o192_4 P) .nil .nil)) (.node (o96_4 P) (.node (o160_4 P) .nil .nil) (.node (o224_4 P) .nil .nil))) (.node (o48_2 P) (.node (o80_4 P) (.node (o144_4 P) (.node (o272_5 P) .nil .nil) .nil) (.node (o208_4 P) .nil .nil)) (.node (o112_4 P) (.node (o176_4 P) .nil .nil) (.node (o240_5 P) .nil .nil)))) (.node (o24_2 P) (.node (o40_2 P) (.node (o72_4 P) (.node (o136_4 P) (.node (o264_5 P) .nil .nil) .nil) (.node (o200_4 P) .nil .nil)) (.node (o104_4 P) (.node (o168_4 P) .nil .nil) (.node (o232_5 P) .nil .nil))) (.node (o56_2 P) (.node (o88_4 P) (.node (o152_4 P) (.node (o280_5 P) .nil .nil) .nil) (.node (o216_4 P) .nil .nil)) (.node (o120_4 P) (.node (o184_4 P) .nil .nil) (.node (o248_5 P) .nil .nil))))) (.node (o12_5 P) (.node (o20_2 P) (.node (o36_2 P) (.node (o68_4 P) (.node (o132_4 P) (.node (o260_5 P) .nil .nil) .nil) (.node (o196_4 P) .nil .nil)) (.node (o100_4 P) (.node (o164_4 P) .nil .nil) (.node (o228_5 P) .nil .nil))) (.node (o52_2 P) (.node (o84_4 P) (.node (o148_4 P) (.node (o276_5 P) .nil .nil) .nil) (.node (o212_4 P) .nil .nil)) (.node (o116_4 P) (.node (o180_4 P) .nil .nil) (.node (o244_5 P) .nil .nil)))) (.node (o28_2 P) (.node (o44_2 P) (.node (o76_4 P) (.node (o140_4 P) (.node (o268_5 P) .nil .nil) .nil) (.node (o204_4 P) .nil .nil)) (.node (o108_4 P) (.node (o172_4 P) .nil .nil) (.node (o236_5 P) .nil .nil))) (.node (o60_2 P) (.node (o92_4 P) (.node (o156_4 P) (.node (o284_5 P) .nil .nil) .nil) (.node (o220_4 P) .nil .nil)) (.node (o124_4 P) (.node (o188_4 P) .nil .nil) (.node (o252_5 P) .nil .nil)))))) (.node (o6_a P) (.node (o10_a P) (.node (o18_2 P) (.node (o34_2 P) (.node (o66_4 P) (.node (o130_4 P) (.node (o258_5 P) .nil .nil) .nil) (.node (o194_4 P) .nil .nil)) (.node (o98_4 P) (.node (o162_4 P) .nil .nil) (.node (o226_4 P) .nil .nil))) (.node (o50_2 P) (.node (o82_4 P) (.node (o146_4 P) (.node (o274_5 P) .nil .nil) .nil) (.node (o210_4 P) .nil .nil)) (.node (o114_4 P) (.node (o178_4 P) .nil .nil) (.node (o242_5 P) .nil .nil)))) (.node (o26_2 P) (.node (o42_2 P) (.node (o74_4 P) (.node (o138_4 P) (.node (o266_5 P) .nil .nil) .nil) (.node (o202_4 P) .nil .nil)) (.node (o106_4 P) (.node (o170_4 P) .nil .nil) (.node (o234_5 P) .nil .nil))) (.node (o58_2 P) (.node (o90_4 P) (.node (o154_4 P) (.node (o282_5 P) .nil .nil) .nil) (.node (o218_4 P) .nil .nil)) (.node (o122_4 P) (.node (o186_4 P) .nil .nil) (.node (o250_5 P) .nil .nil))))) (.node (o14_a P) (.node (o22_2 P) (.node (o38_2 P) (.node (o70_4 P) (.node (o134_4 P) (.node (o262_5 P) .nil .nil) .nil) (.node (o198_4 P) .nil .nil)) (.node (o102_4 P) (.node (o166_4 P) .nil .nil) (.node (o230_5 P) .nil .nil))) (.node (o54_2 P) (.node (o86_4 P) (.node (o150_4 P) (.node (o278_5 P) .nil .nil) .nil) (.node (o214_4 P) .nil .nil)) (.node (o118_4 P) (.node (o182_4 P) .nil .nil) (.node (o246_5 P) .nil .nil)))) (.node (o30_2 P) (.node (o46_2 P) (.node (o78_4 P) (.node (o142_4 P) (.node (o270_5 P) .nil .nil) .nil) (.node (o206_4 P) .nil .nil)) (.node (o110_4 P) (.node (o174_4 P) .nil .nil) (.node (o238_5 P) .nil .nil))) (.node (o62_2 P) (.node (o94_4 P) (.node (o158_4 P) .nil .nil) (.node (o222_4 P) .nil .nil)) (.node (o126_4 P) (.node (o190_4 P) .nil .nil) (.node (o254_5 P) .nil .nil))))))))
noncomputable def C5 (P : Params) (os : OsState) : SharedT := ⟨T5 P, nat_lit 285, (boot_heap P).life, #[], boot_drawn, nat_lit 534, os⟩
abbrev pos5 : Pos := { line := 152, col := 0, endLine := 182, endCol := 48 }
noncomputable def o3_6 : Params → Obj := fun P => { cls := Value.type "dict", data := Data.dict #[{ hash := PyData.keyHash P (Str.ofString "__name__"), key := Value.str (Str.ofString "__name__") 165, val := Value.str (Str.ofString "kyber_py.polynomials.polynomials") 448 }, { hash := PyData.keyHash P (Str.ofString "__doc__"), key := Value.str (Str.ofString "__doc__") 166, val := Value.none }, { hash := PyData.keyHash P (Str.ofString "__package__"), key := Value.str (Str.ofString "__package__") 167, val := Value.none }, { hash := PyData.keyHash P (Str.ofString "__loader__"), key := Value.str (Str.ofString "__loader__") 168, val := Value.builtin "__main__.__loader__#opaque" }, { hash := PyData.keyHash P (Str.ofString "__spec__"), key := Value.str (Str.ofString "__spec__") 169, val := Value.none }, { hash := PyData.keyHash P (Str.ofString "__annotations__"), key := Value.str (Str.ofString "__annotations__") 170, val := Value.ref 6 }, { hash := PyData.keyHash P (Str.ofString "__builtins__"), key := Value.str (Str.ofString "__builtins__") 171, val := Value.ref 4 }, { hash := PyData.keyHash P (Str.ofString "__file__"), key := Value.str (Str.ofString "__file__") 173, val := Value.str (Str.ofString "/claim/cut.py") 172 }, { hash := PyData.keyHash P (Str.ofString "__cached__"), key := Value.str (Str.ofString "__cached__") 174, val := Value.none }, { hash := PyData.keyHash P (Str.ofString "_wall"), key := Value.str (Str.ofString "_wall") 193, val := Value.ref 21 }, { hash := PyData.keyHash P (Str.ofString "GenericPolynomialRing"), key := Value.str (Str.ofString "GenericPolynomialRing") 248, val := Value.ref 59 }, { hash := PyData.keyHash P (Str.ofString "GenericPolynomial"), key := Value.str (Str.ofString "GenericPolynomial") 447, val := Value.ref 222 }, { hash := PyData.keyHash P (Str.ofString "PolynomialRing"), key := Value.str (Str.ofString "PolynomialRing") 533, val := Value.ref 282 }, { hash := PyData.keyHash P (Str.ofString "Polynomial"), key := Value.str (Str.ofString "Polynomial") 616, val := Value.ref 350 }] 14 }
noncomputable def o12_6 : Params → Obj := fun P => { cls := Value.none, data := Data.fields #[Value.int 1 0, Value.int 0 0, Value.ref 20, Value.int 5 0, Value.int 0 0, Value.ref 27, Value.int 23 0, Value.int 0 0, Value.ref 69, Value.int 152 0, Value.int 0 0, Value.ref 232, Value.int 183 0, Value.int 0 0, Value.ref 290] }
noncomputable def o222_6 : Params → Obj := fun P => { cls := Value.type "type", data := Data.cls { name := Str.ofString "GenericPolynomial", bases := [Value.type "object"], mro := [Value.ref 222, Value.type "object"], ns := 221, qualname := Str.ofString "GenericPolynomial", subclasses := [Value.ref 350] }, slots := #[none, none, some (Value.str (Str.ofString "GenericPolynomial") 249), some (Value.str (Str.ofString "GenericPolynomial") 257), some (Value.builtin "object.__new__"), some (Value.bool true)] }
noncomputable def o285_6 : Params → Obj := fun P => { cls := Value.type "tuple", data := Data.seq #[Value.ref 222] }
noncomputable def o286_6 : Params → Obj := fun P => { cls := Value.type "builtin_function_or_method", data := Data.fields #[Value.builtin "type.__prepare__", Value.type "type"] }
noncomputable def o287_6 : Params → Obj := fun P => { cls := Value.type "dict", data := Data.dict #[{ hash := PyData.keyHash P (Str.ofString "__module__"), key := Value.str (Str.ofString "__module__") 541, val := Value.str (Str.ofString "kyber_py.polynomials.polynomials") 448 }, { hash := PyData.keyHash P (Str.ofString "__qualname__"), key := Value.str (Str.ofString "__qualname__") 543, val := Value.str (Str.ofString "Polynomial") 542 }, { hash := PyData.keyHash P (Str.ofString "__firstlineno__"), key := Value.str (Str.ofString "__firstlineno__") 545, val := Value.int 183 544 }, { hash := PyData.keyHash P (Str.ofString "__init__"), key := Value.str (Str.ofString "__init__") 554, val := Value.ref 298 }, { hash := PyData.keyHash P (Str.ofString "encode"), key := Value.str (Str.ofString "encode") 562, val := Value.ref 305 }, { hash := PyData.keyHash P (Str.ofString "_compress_ele"), key := Value.str (Str.ofString "_compress_ele") 571, val := Value.ref 312 }, { hash := PyData.keyHash P (Str.ofString "_decompress_ele"), key := Value.str (Str.ofString "_decompress_ele") 580, val := Value.ref 319 }, { hash := PyData.keyHash P (Str.ofString "compress"), key := Value.str (Str.ofString "compress") 588, val := Value.ref 326 }, { hash := PyData.keyHash P (Str.ofString "decompress"), key := Value.str (Str.ofString "decompress") 596, val := Value.ref 333 }, { hash := PyData.keyHash P (Str.ofString "to_ntt"), key := Value.str (Str.ofString "to_ntt") 603, val := Value.ref 340 }, { hash := PyData.keyHash P (Str.ofString "from_ntt"), key := Value.str (Str.ofString "from_ntt") 610, val := Value.ref 347 }, { hash := PyData.keyHash P (Str.ofString "__static_attributes__"), key := Value.str (Str.ofString "__static_attributes__") 613, val := Value.ref 348 }] 12 }
noncomputable def o288_6 : Params → Obj := fun P => { cls := Value.type "tuple", data := Data.seq #[] }
noncomputable def o289_6 : Params → Obj := fun P => { cls := Value.none, data := Data.fields #[Value.int 185 0, Value.int 4 0, Value.ref 297, Value.int 189 0, Value.int 4 0, Value.ref 304, Value.int 192 0, Value.int 4 0, Value.ref 311, Value.int 195 0, Value.int 4 0, Value.ref 318, Value.int 198 0, Value.int 4 0, Value.ref 325, Value.int 201 0, Value.int 4 0, Value.ref 332, Value.int 204 0, Value.int 4 0, Value.ref 339, Value.int 207 0, Value.int 4 0, Value.ref 346] }
noncomputable def o290_6 : Params → Obj := fun P => { cls := Value.type "code", data := Data.fields #[Value.str (Str.ofString "Polynomial") 536, Value.str (Str.ofString "Polynomial") 537, Value.str (Str.ofString "/claim/cut.py") 538, Value.int 183 0, Value.int 0 0, Value.int 0 0, Value.int 0 0, Value.int 0 0, Value.ref 288, Value.bool false, Value.int 181 0, Value.ref 289, Value.none, Value.none, Value.none, Value.none, Value.int 539 0, Value.int 183 0, Value.str (Str.ofString "/claim/cut.py") 540] }
noncomputable def o291_6 : Params → Obj := fun P => { cls := Value.type "frame", slots := #[some (Value.ref 290), some (Value.ref 3), some (Value.ref 287), none, some (Value.str (Str.ofString "kyber_py.polynomials.polynomials") 448), none, some (Value.ref 0)] }
noncomputable def o292_6 : Params → Obj := fun P => { cls := Value.type "tuple", data := Data.seq #[] }
noncomputable def o293_6 : Params → Obj := fun P => { cls := Value.none, data := Data.fields #[] }
noncomputable def o294_6 : Params → Obj := fun P => { cls := Value.type "tuple", data := Data.seq #[Value.str (Str.ofString "self") 549, Value.str (Str.ofString "parent") 550, Value.str (Str.ofString "coefficients") 551] }
noncomputable def o295_6 : Params → Obj := fun P => { cls := Value.type "tuple", data := Data.seq #[] }
noncomputable def o296_6 : Params → Obj := fun P => { cls := Value.none, data := Data.func { name := Str.ofString "__init__", qualname := Str.ofString "Polynomial.__init__", params := P_6_0, body := FuncBody.stmts B_6_0, scope := S_6_0, globals := 0, closure := [], defaults := Value.none, kwdefaults := Value.none } }
noncomputable def o297_6 : Params → Obj := fun P => { cls := Value.type "code", data := Data.fields #[Value.str (Str.ofString "__init__") 546, Value.str (Str.ofString "Polynomial.__init__") 547, Value.str (Str.ofString "/claim/cut.py") 548, Value.int 185 0, Value.int 3 0, Value.int 0 0, Value.int 0 0, Value.int 3 0, Value.ref 292, Value.bool true, Value.int 181 0, Value.ref 293, Value.none, Value.ref 294, Value.ref 295, Value.ref 296, Value.int 552 0, Value.int 185 0, Value.str (Str.ofString "/claim/cut.py") 553] }
noncomputable def o298_6 : Params → Obj := fun P => { cls := Value.type "function", data := Data.func { name := Str.ofString "__init__", qualname := Str.ofString "Polynomial.__init__", params := P_6_0, body := FuncBody.stmts B_6_0, scope := S_6_0, globals := 3, closure := [], defaults := Value.none, kwdefaults := Value.none, pyModule := Value.str (Str.ofString "kyber_py.polynomials.polynomials") 448, code := Value.ref 297 } }
noncomputable def o299_6 : Params → Obj := fun P => { cls := Value.type "tuple", data := Data.seq #[] }
noncomputable def o300_6 : Params → Obj := fun P => { cls := Value.none, data := Data.fields #[] }
noncomputable def o301_6 : Params → Obj := fun P => { cls := Value.type "tuple", data := Data.seq #[Value.str (Str.ofString "self") 558, Value.str (Str.ofString "d") 559] }
noncomputable def o302_6 : Params → Obj := fun P => { cls := Value.type "tuple", data := Data.seq #[] }
noncomputable def o303_6 : Params → Obj := fun P => { cls := Value.none, data := Data.func { name := Str.ofString "encode", qualname := Str.ofString "Polynomial.encode", params := P_6_1, body := FuncBody.stmts B_6_1, scope := S_6_1, globals := 0, closure := [], defaults := Value.none, kwdefaults := Value.none } }
noncomputable def o304_6 : Params → Obj := fun P => { cls := Value.type "code", data := Data.fields #[Value.str (Str.ofString "encode") 555, Value.str (Str.ofString "Polynomial.encode") 556, Value.str (Str.ofString "/claim/cut.py") 557, Value.int 189 0, Value.int 2 0, Value.int 0 0, Value.int 0 0, Value.int 3 0, Value.ref 299, Value.bool true, Value.int 181 0, Value.ref 300, Value.none, Value.ref 301, Value.ref 302, Value.ref 303, Value.int 560 0, Value.int 189 0, Value.str (Str.ofString "/claim/cut.py") 561] }
noncomputable def o305_6 : Params → Obj := fun P => { cls := Value.type "function", data := Data.func { name := Str.ofString "encode", qualname := Str.ofString "Polynomial.encode", params := P_6_1, body := FuncBody.stmts B_6_1, scope := S_6_1, globals := 3, closure := [], defaults := Value.none, kwdefaults := Value.none, pyModule := Value.str (Str.ofString "kyber_py.polynomials.polynomials") 448, code := Value.ref 304 } }
noncomputable def o306_6 : Params → Obj := fun P => { cls := Value.type "tuple", data := Data.seq #[] }
noncomputable def o307_6 : Params → Obj := fun P => { cls := Value.none, data := Data.fields #[] }
noncomputable def o308_6 : Params → Obj := fun P => { cls := Value.type "tuple", data := Data.seq #[Value.str (Str.ofString "self") 566, Value.str (Str.ofString "x") 567, Value.str (Str.ofString "d") 568] }
noncomputable def o309_6 : Params → Obj := fun P => { cls := Value.type "tuple", data := Data.seq #[] }
noncomputable def o310_6 : Params → Obj := fun P => { cls := Value.none, data := Data.func { name := Str.ofString "_compress_ele", qualname := Str.ofString "Polynomial._compress_ele", params := P_6_2, body := FuncBody.stmts B_6_2, scope := S_6_2, globals := 0, closure := [], defaults := Value.none, kwdefaults := Value.none } }
noncomputable def o311_6 : Params → Obj := fun P => { cls := Value.type "code", data := Data.fields #[Value.str (Str.ofString "_compress_ele") 563, Value.str (Str.ofString "Polynomial._compress_ele") 564, Value.str (Str.ofString "/claim/cut.py") 565, Value.int 192 0, Value.int 3 0, Value.int 0 0, Value.int 0 0, Value.int 3 0, Value.ref 306, Value.bool true, Value.int 181 0, Value.ref 307, Value.none, Value.ref 308, Value.ref 309, Value.ref 310, Value.int 569 0, Value.int 192 0, Value.str (Str.ofString "/claim/cut.py") 570] }
noncomputable def o312_6 : Params → Obj := fun P => { cls := Value.type "function", data := Data.func { name := Str.ofString "_compress_ele", qualname := Str.ofString "Polynomial._compress_ele", params := P_6_2, body := FuncBody.stmts B_6_2, scope := S_6_2, globals := 3, closure := [], defaults := Value.none, kwdefaults := Value.none, pyModule := Value.str (Str.ofString "kyber_py.polynomials.polynomials") 448, code := Value.ref 311 } }
noncomputable def o313_6 : Params → Obj := fun P => { cls := Value.type "tuple", data := Data.seq #[] }
noncomputable def o314_6 : Params → Obj := fun P => { cls := Value.none, data := Data.fields #[] }
noncomputable def o315_6 : Params → Obj := fun P => { cls := Value.type "tuple", data := Data.seq #[Value.str (Str.ofString "self") 575, Value.str (Str.ofString "x") 576, Value.str (Str.ofString "d") 577] }
noncomputable def o316_6 : Params → Obj := fun P => { cls := Value.type "tuple", data := Data.seq #[] }
noncomputable def o317_6 : Params → Obj := fun P => { cls := Value.none, data := Data.func { name := Str.ofString "_decompress_ele", qualname := Str.ofString "Polynomial._decompress_ele", params := P_6_3, body := FuncBody.stmts B_6_3, scope := S_6_3, globals := 0, closure := [], defaults := Value.none, kwdefaults := Value.none } }
noncomputable def o318_6 : Params → Obj := fun P => { cls := Value.type "code", data := Data.fields #[Value.str (Str.ofString "_decompress_ele") 572, Value.str (Str.ofString "Polynomial._decompress_ele") 573, Value.str (Str.ofString "/claim/cut.py") 574, Value.int 195 0, Value.int 3 0, Value.int 0 0, Value.int 0 0, Value.int 3 0, Value.ref 313, Value.bool true, Value.int 181 0, Value.ref 314, Value.none, Value.ref 315, Value.ref 316, Value.ref 317, Value.int 578 0, Value.int 195 0, Value.str (Str.ofString "/claim/cut.py") 579] }
noncomputable def o319_6 : Params → Obj := fun P => { cls := Value.type "function", data := Data.func { name := Str.ofString "_decompress_ele", qualname := Str.ofString "Polynomial._decompress_ele", params := P_6_3, body := FuncBody.stmts B_6_3, scope := S_6_3, globals := 3, closure := [], defaults := Value.none, kwdefaults := Value.none, pyModule := Value.str (Str.ofString "kyber_py.polynomials.polynomials") 448, code := Value.ref 318 } }
noncomputable def o320_6 : Params → Obj := fun P => { cls := Value.type "tuple", data := Data.seq #[] }
noncomputable def o321_6 : Params → Obj := fun P => { cls := Value.none, data := Data.fields #[] }
noncomputable def o322_6 : Params → Obj := fun P => { cls := Value.type "tuple", data := Data.seq #[Value.str (Str.ofString "self") 584, Value.str (Str.ofString "d") 585] }
noncomputable def o323_6 : Params → Obj := fun P => { cls := Value.type "tuple", data := Data.seq #[] }
noncomputable def o324_6 : Params → Obj := fun P => { cls := Value.none, data := Data.func { name := Str.ofString "compress", qualname := Str.ofString "Polynomial.compress", params := P_6_4, body := FuncBody.stmts B_6_4, scope := S_6_4, globals := 0, closure := [], defaults := Value.none, kwdefaults := Value.none } }
noncomputable def o325_6 : Params → Obj := fun P => { cls := Value.type "code", data := Data.fields #[Value.str (Str.ofString "compress") 581, Value.str (Str.ofString "Polynomial.compress") 582, Value.str (Str.ofString "/claim/cut.py") 583, Value.int 198 0, Value.int 2 0, Value.int 0 0, Value.int 0 0, Value.int 3 0, Value.ref 320, Value.bool true, Value.int 181 0, Value.ref 321, Value.none, Value.ref 322, Value.ref 323, Value.ref 324, Value.int 586 0, Value.int 198 0, Value.str (Str.ofString "/claim/cut.py") 587] }
noncomputable def o326_6 : Params → Obj := fun P => { cls := Value.type "function", data := Data.func { name := Str.ofString "compress", qualname := Str.ofString "Polynomial.compress", params := P_6_4, body := FuncBody.stmts B_6_4, scope := S_6_4, globals := 3, closure := [], defaults := Value.none, kwdefaults := Value.none, pyModule := Value.str (Str.ofString "kyber_py.polynomials.polynomials") 448, code := Value.ref 325 } }
noncomputable def o327_6 : Params → Obj := fun P => { cls := Value.type "tuple", data := Data.seq #[] }
noncomputable def o328_6 : Params → Obj := fun P => { cls := Value.none, data := Data.fields #[] }
noncomputable def o329_6 : Params → Obj := fun P => { cls := Value.type "tuple", data := Data.seq #[Value.str (Str.ofString "self") 592, Value.str (Str.ofString "d") 593] }
noncomputable def o330_6 : Params → Obj := fun P => { cls := Value.type "tuple", data := Data.seq #[] }
noncomputable def o331_6 : Params → Obj := fun P => { cls := Value.none, data := Data.func { name := Str.ofString "decompress", qualname := Str.ofString "Polynomial.decompress", params := P_6_5, body := FuncBody.stmts B_6_5, scope := S_6_5, globals := 0, closure := [], defaults := Value.none, kwdefaults := Value.none } }
noncomputable def o332_6 : Params → Obj := fun P => { cls := Value.type "code", data := Data.fields #[Value.str (Str.ofString "decompress") 589, Value.str (Str.ofString "Polynomial.decompress") 590, Value.str (Str.ofString "/claim/cut.py") 591, Value.int 201 0, Value.int 2 0, Value.int 0 0, Value.int 0 0, Value.int 3 0, Value.ref 327, Value.bool true, Value.int 181 0, Value.ref 328, Value.none, Value.ref 329, Value.ref 330, Value.ref 331, Value.int 594 0, Value.int 201 0, Value.str (Str.ofString "/claim/cut.py") 595] }
noncomputable def o333_6 : Params → Obj := fun P => { cls := Value.type "function", data := Data.func { name := Str.ofString "decompress", qualname := Str.ofString "Polynomial.decompress", params := P_6_5, body := FuncBody.stmts B_6_5, scope := S_6_5, globals := 3, closure := [], defaults := Value.none, kwdefaults := Value.none, pyModule := Value.str (Str.ofString "kyber_py.polynomials.polynomials") 448, code := Value.ref 332 } }
noncomputable def o334_6 : Params → Obj := fun P => { cls := Value.type "tuple", data := Data.seq #[] }
noncomputable def o335_6 : Params → Obj := fun P => { cls := Value.none, data := Data.fields #[] }
noncomputable def o336_6 : Params → Obj := fun P => { cls := Value.type "tuple", data := Data.seq #[Value.str (Str.ofString "self") 600] }
noncomputable def o337_6 : Params → Obj := fun P => { cls := Value.type "tuple", data := Data.seq #[] }
noncomputable def o338_6 : Params → Obj := fun P => { cls := Value.none, data := Data.func { name := Str.ofString "to_ntt", qualname := Str.ofString "Polynomial.to_ntt", params := P_6_6, body := FuncBody.stmts B_6_6, scope := S_6_6, globals := 0, closure := [], defaults := Value.none, kwdefaults := Value.none } }
noncomputable def o339_6 : Params → Obj := fun P => { cls := Value.type "code", data := Data.fields #[Value.str (Str.ofString "to_ntt") 597, Value.str (Str.ofString "Polynomial.to_ntt") 598, Value.str (Str.ofString "/claim/cut.py") 599, Value.int 204 0, Value.int 1 0, Value.int 0 0, Value.int 0 0, Value.int 3 0, Value.ref 334, Value.bool true, Value.int 181 0, Value.ref 335, Value.none, Value.ref 336, Value.ref 337, Value.ref 338, Value.int 601 0, Value.int 204 0, Value.str (Str.ofString "/claim/cut.py") 602] }
noncomputable def o340_6 : Params → Obj := fun P => { cls := Value.type "function", data := Data.func { name := Str.ofString "to_ntt", qualname := Str.ofString "Polynomial.to_ntt", params := P_6_6, body := FuncBody.stmts B_6_6, scope := S_6_6, globals := 3, closure := [], defaults := Value.none, kwdefaults := Value.none, pyModule := Value.str (Str.ofString "kyber_py.polynomials.polynomials") 448, code := Value.ref 339 } }
noncomputable def o341_6 : Params → Obj := fun P => { cls := Value.type "tuple", data := Data.seq #[] }
noncomputable def o342_6 : Params → Obj := fun P => { cls := Value.none, data := Data.fields #[] }
noncomputable def o343_6 : Params → Obj := fun P => { cls := Value.type "tuple", data := Data.seq #[Value.str (Str.ofString "self") 607] }
noncomputable def o344_6 : Params → Obj := fun P => { cls := Value.type "tuple", data := Data.seq #[] }
noncomputable def o345_6 : Params → Obj := fun P => { cls := Value.none, data := Data.func { name := Str.ofString "from_ntt", qualname := Str.ofString "Polynomial.from_ntt", params := P_6_7, body := FuncBody.stmts B_6_7, scope := S_6_7, globals := 0, closure := [], defaults := Value.none, kwdefaults := Value.none } }
noncomputable def o346_6 : Params → Obj := fun P => { cls := Value.type "code", data := Data.fields #[Value.str (Str.ofString "from_ntt") 604, Value.str (Str.ofString "Polynomial.from_ntt") 605, Value.str (Str.ofString "/claim/cut.py") 606, Value.int 207 0, Value.int 1 0, Value.int 0 0, Value.int 0 0, Value.int 3 0, Value.ref 341, Value.bool true, Value.int 181 0, Value.ref 342, Value.none, Value.ref 343, Value.ref 344, Value.ref 345, Value.int 608 0, Value.int 207 0, Value.str (Str.ofString "/claim/cut.py") 609] }
noncomputable def o347_6 : Params → Obj := fun P => { cls := Value.type "function", data := Data.func { name := Str.ofString "from_ntt", qualname := Str.ofString "Polynomial.from_ntt", params := P_6_7, body := FuncBody.stmts B_6_7, scope := S_6_7, globals := 3, closure := [], defaults := Value.none, kwdefaults := Value.none, pyModule := Value.str (Str.ofString "kyber_py.polynomials.polynomials") 448, code := Value.ref 346 } }
noncomputable def o348_6 : Params → Obj := fun P => { cls := Value.type "tuple", data := Data.seq #[Value.str (Str.ofString "coeffs") 611, Value.str (Str.ofString "parent") 612] }
noncomputable def o349_6 : Params → Obj := fun P => { cls := Value.type "dict", data := Data.dict #[{ hash := PyData.keyHash P (Str.ofString "__module__"), key := Value.str (Str.ofString "__module__") 541, val := Value.str (Str.ofString "kyber_py.polynomials.polynomials") 448 }, { hash := PyData.keyHash P (Str.ofString "__firstlineno__"), key := Value.str (Str.ofString "__firstlineno__") 545, val := Value.int 183 544 }, { hash := PyData.keyHash P (Str.ofString "__init__"), key := Value.str (Str.ofString "__init__") 554, val := Value.ref 298 }, { hash := PyData.keyHash P (Str.ofString "encode"), key := Value.str (Str.ofString "encode") 562, val := Value.ref 305 }, { hash := PyData.keyHash P (Str.ofString "_compress_ele"), key := Value.str (Str.ofString "_compress_ele") 571, val := Value.ref 312 }, { hash := PyData.keyHash P (Str.ofString "_decompress_ele"), key := Value.str (Str.ofString "_decompress_ele") 580, val := Value.ref 319 }, { hash := PyData.keyHash P (Str.ofString "compress"), key := Value.str (Str.ofString "compress") 588, val := Value.ref 326 }, { hash := PyData.keyHash P (Str.ofString "decompress"), key := Value.str (Str.ofString "decompress") 596, val := Value.ref 333 }, { hash := PyData.keyHash P (Str.ofString "to_ntt"), key := Value.str (Str.ofString "to_ntt") 603, val := Value.ref 340 }, { hash := PyData.keyHash P (Str.ofString "from_ntt"), key := Value.str (Str.ofString "from_ntt") 610, val := Value.ref 347 }, { hash := PyData.keyHash P (Str.ofString "__static_attributes__"), key := Value.str (Str.ofString "__static_attributes__") 613, val := Value.ref 348 }, { hash := PyData.keyHash P (Str.ofString "__doc__"), key := Value.str (Str.ofString "__doc__") 614, val := Value.none }] 2 }
noncomputable def o350_6 : Params → Obj := fun P => { cls := Value.type "type", data := Data.cls { name := Str.ofString "Polynomial", bases := [Value.ref 222], mro := [Value.ref 350, Value.ref 222, Value.type "object"], ns := 349, qualname := Str.ofString "Polynomial" }, slots := #[some (Value.ref 285), none, some (Value.str (Str.ofString "Polynomial") 534), some (Value.str (Str.ofString "Polynomial") 542), some (Value.builtin "object.__new__"), some (Value.bool true)] }
noncomputable def o351_6 : Params → Obj := fun P => { cls := Value.type "super", data := Data.fields #[Value.ref 350, Value.ref 350, Value.ref 350] }
noncomputable def o352_6 : Params → Obj := fun P => { cls := Value.type "builtin_function_or_method", data := Data.fields #[Value.builtin "object.__init_subclass__", Value.ref 350] }
noncomputable def T6 : Params → BT := fun P => (.node (o0_a P) (.node (o1_a P) (.node (o3_6 P) (.node (o7_a P) (.node (o15_2 P) (.node (o31_2 P) (.node (o63_2 P) (.node (o127_4 P) (.node (o255_5 P) .nil .nil) .nil) (.node (o191_4 P) (.node (o319_6 P) .nil .nil) .nil)) (.node (o95_4 P) (.node (o159_4 P) (.node (o287_6 P) .nil .nil) .nil) (.node (o223_4 P) (.node (o351_6 P) .nil .nil) .nil))) (.node (o47_2 P) (.node (o79_4 P) (.node (o143_4 P) (.node (o271_5 P) .nil .nil) .nil) (.node (o207_4 P) (.node (o335_6 P) .nil .nil) .nil)) (.node (o111_4 P) (.node (o175_4 P) (.node (o303_6 P) .nil .nil) .nil) (.node (o239_5 P) .nil .nil)))) (.node (o23_2 P) (.node (o39_2 P) (.node (o71_4 P) (.node (o135_4 P) (.node (o263_5 P) .nil .nil) .nil) (.node (o199_4 P) (.node (o327_6 P) .nil .nil) .nil)) (.node (o103_4 P) (.node (o167_4 P) (.node (o295_6 P) .nil .nil) .nil) (.node (o231_5 P) .nil .nil))) (.node (o55_2 P) (.node (o87_4 P) (.node (o151_4 P) (.node (o279_5 P) .nil .nil) .nil) (.node (o215_4 P) (.node (o343_6 P) .nil .nil) .nil)) (.node (o119_4 P) (.node (o183_4 P) (.node (o311_6 P) .nil .nil) .nil) (.node (o247_5 P) .nil .nil))))) (.node (o11_a P) (.node (o19_2 P) (.node (o35_2 P) (.node (o67_4 P) (.node (o131_4 P) (.node (o259_5 P) .nil .nil) .nil) (.node (o195_4 P) (.node (o323_6 P) .nil .nil) .nil)) (.node (o99_4 P) (.node (o163_4 P) (.node (o291_6 P) .nil .nil) .nil) (.node (o227_5 P) .nil .nil))) (.node (o51_2 P) (.node (o83_4 P) (.node (o147_4 P) (.node (o275_5 P) .nil .nil) .nil) (.node (o211_4 P) (.node (o339_6 P) .nil .nil) .nil)) (.node (o115_4 P) (.node (o179_4 P) (.node (o307_6 P) .nil .nil) .nil) (.node (o243_5 P) .nil .nil)))) (.node (o27_2 P) (.node (o43_2 P) (.node (o75_4 P) (.node (o139_4 P) (.node (o267_5 P) .nil .nil) .nil) (.node (o203_4 P) (.node (o331_6 P) .nil .nil) .nil)) (.node (o107_4 P) (.node (o171_4 P) (.node (o299_6 P) .nil .nil) .nil) (.node (o235_5 P) .nil .nil))) (.node (o59_5 P) (.node (o91_4 P) (.node (o155_4 P) (.node (o283_5 P) .nil .nil) .nil) (.node (o219_4 P) (.node (o347_6 P) .nil .nil) .nil)) (.node (o123_4 P) (.node (o187_4 P) (.node (o315_6 P) .nil .nil) .nil) (.node (o251_5 P) .nil .nil)))))) (.node (o5_a P) (.node (o9_a P) (.node (o17_2 P) (.node (o33_2 P) (.node (o65_4 P) (.node (o129_4 P) (.node (o257_5 P) .nil .nil) .nil) (.node (o193_4 P) (.node (o321_6 P) .nil .nil) .nil)) (.node (o97_4 P) (.node (o161_4 P) (.node (o289_6 P) .nil .nil) .nil) (.node (o225_4 P) .nil .nil))) (.node (o49_2 P) (.node (o81_4 P) (.node (o145_4 P) (.node (o273_5 P) .nil .nil) .nil) (.node (o209_4 P) (.node (o337_6 P) .nil .nil) .nil)) (.node (o113_4 P) (.node (o177_4 P) (.node (o305_6 P) .nil .nil) .nil) (.node (o241_5 P) .nil .nil)))) (.node (o25_2 P) (.node (o41_2 P) (.node (o73_4 P) (.node (o137_4 P) (.node (o265_5 P) .nil .nil) .nil) (.node (o201_4 P) (.node (o329_6 P) .nil .nil) .nil)) (.node (o105_4 P) (.node (o169_4 P) (.node (o297_6 P) .nil .nil) .nil) (.node (o233_5 P) .nil .nil))) (.node (o57_2 P) (.node (o89_4 P) (.node (o153_4 P) (.node (o281_5 P) .nil .nil) .nil) (.node (o217_4 P) (.node (o345_6 P) .nil .nil) .nil)) (.node (o121_4 P) (.node (o185_4 P) (.node (o313_6 P) .nil .nil) .nil) (.node (o249_5 P) .nil .nil))))) (.node (o13_a P) (.node (o21_2 P) (.node (o37_2 P) (.node (o69_4 P) (.node (o133_4 P) (.node (o261_5 P) .nil .nil) .nil) (.node (o197_4 P) (.node (o325_6 P) .nil .nil) .nil)) (.node (o101_4 P) (.node (o165_4 P) (.node (o293_6 P) .nil .nil) .nil) (.node (o229_5 P) .nil .nil))) (.node (o53_2 P) (.node (o85_4 P) (.node (o149_4 P) (.node (o277_5 P) .nil .nil) .nil) (.node (o213_4 P) (.node (o341_6 P) .nil .nil) .nil)) (.node (o117_4 P) (.node (o181_4 P) (.node (o309_6 P) .nil .nil) .nil) (.node (o245_5 P) .nil .nil)))) (.node (o29_2 P) (.node (o45_2 P) (.node (o77_4 P) (.node (o141_4 P) (.node (o269_5 P) .nil .nil) .nil) (.node (o205_4 P) (.node (o333_6 P) .nil .nil) .nil)) (.node (o109_4 P) (.node (o173_4 P) (.node (o301_6 P) .nil .nil) .nil) (.node (o237_5 P) .nil .nil))) (.node (o61_2 P) (.node (o93_4 P) (.node (o157_4 P) (.node (o285_6 P) .nil .nil) .nil) (.node (o221_4 P) (.node (o349_6 P) .nil .nil) .nil)) (.node (o125_4 P) (.node (o189_4 P) (.node (o317_6 P) .nil .nil) .nil) (.node (o253_5 P) .nil .nil))))))) (.node (o2_a P) (.node (o4_a P) (.node (o8_a P) (.node (o16_2 P) (.node (o32_2 P) (.node (o64_4 P) (.node (o128_4 P) (.node (o256_5 P) .nil .nil) .nil) (.node (o192_4 P) (.node (o320_6 P) .nil .nil) .nil)) (.node (o96_4 P) (.node (o160_4 P) (.node (o288_6 P) .nil .nil) .nil) (.node (o224_4 P) (.node (o352_6 P) .nil .nil) .nil))) (.node (o48_2 P) (.node (o80_4 P) (.node (o144_4 P) (.node (o272_5 P) .nil .nil) .nil) (.node (o208_4 P) (.node (o336_6 P) .nil .nil) .nil)) (.node (o112_4 P) (.node (o176_4 P) (.node (o304_6 P) .nil .nil) .nil) (.node (o240_5 P) .nil .nil)))) (.node (o24_2 P) (.node (o40_2 P) (.node (o72_4 P) (.node (o136_4 P) (.node (o264_5 P) .nil .nil) .nil) (.node (o200_4 P) (.node (o328_6 P) .nil .nil) .nil)) (.node (o104_4 P) (.node (o168_4 P) (.node (o296_6 P) .nil .nil) .nil) (.node (o232_5 P) .nil .nil))) (.node (o56_2 P) (.node (o88_4 P) (.node (o152_4 P) (.node (o280_5 P) .nil .nil) .nil) (.node (o216_4 P) (.node (o344_6 P) .nil .nil) .nil)) (.node (o120_4 P) (.node (o184_4 P) (.node (o312_6 P) .nil .nil) .nil) (.node (o248_5 P) .nil .nil))))) (.node (o12_6 P) (.node (o20_2 P) (.node (o36_2 P) (.node (o68_4 P) (.node (o132_4 P) (.node (o260_5 P) .nil .nil) .nil) (.node (o196_4 P) (.node (o324_6 P) .nil .nil) .nil)) (.node (o100_4 P) (.node (o164_4 P) (.node (o292_6 P) .nil .nil) .nil) (.node (o228_5 P) .nil .nil))) (.node (o52_2 P) (.node (o84_4 P) (.node (o148_4 P) (.node (o276_5 P) .nil .nil) .nil) (.node (o212_4 P) (.node (o340_6 P) .nil .nil) .nil)) (.node (o116_4 P) (.node (o180_4 P) (.node (o308_6 P) .nil .nil) .nil) (.node (o244_5 P) .nil .nil)))) (.node (o28_2 P) (.node (o44_2 P) (.node (o76_4 P) (.node (o140_4 P) (.node (o268_5 P) .nil .nil) .nil) (.node (o204_4 P) (.node (o332_6 P) .nil .nil) .nil)) (.node (o108_4 P) (.node (o172_4 P) (.node (o300_6 P) .nil .nil) .nil) (.node (o236_5 P) .nil .nil))) (.node (o60_2 P) (.node (o92_4 P) (.node (o156_4 P) (.node (o284_5 P) .nil .nil) .nil) (.node (o220_4 P) (.node (o348_6 P) .nil .nil) .nil)) (.node (o124_4 P) (.node (o188_4 P) (.node (o316_6 P) .nil .nil) .nil) (.node (o252_5 P) .nil .nil)))))) (.node (o6_a P) (.node (o10_a P) (.node (o18_2 P) (.node (o34_2 P) (.node (o66_4 P) (.node (o130_4 P) (.node (o258_5 P) .nil .nil) .nil) (.node (o194_4 P) (.node (o322_6 P) .nil .nil) .nil)) (.node (o98_4 P) (.node (o162_4 P) (.node (o290_6 P) .nil .nil) .nil) (.node (o226_4 P) .nil .nil))) (.node (o50_2 P) (.node (o82_4 P) (.node (o146_4 P) (.node (o274_5 P) .nil .nil) .nil) (.node (o210_4 P) (.node (o338_6 P) .nil .nil) .nil)) (.node (o114_4 P) (.node (o178_4 P) (.node (o306_6 P) .nil .nil) .nil) (.node (o242_5 P) .nil .nil)))) (.node (o26_2 P) (.node (o42_2 P) (.node (o74_4 P) (.node (o138_4 P) (.node (o266_5 P) .nil .nil) .nil) (.node (o202_4 P) (.node (o330_6 P) .nil .nil) .nil)) (.node (o106_4 P) (.node (o170_4 P) (.node (o298_6 P) .nil .nil) .nil) (.node (o234_5 P) .nil .nil))) (.node (o58_2 P) (.node (o90_4 P) (.node (o154_4 P) (.node (o282_5 P) .nil .nil) .nil) (.node (o218_4 P) (.node (o346_6 P) .nil .nil) .nil)) (.node (o122_4 P) (.node (o186_4 P) (.node (o314_6 P) .nil .nil) .nil) (.node (o250_5 P) .nil .nil))))) (.node (o14_a P) (.node (o22_2 P) (.node (o38_2 P) (.node (o70_4 P) (.node (o134_4 P) (.node (o262_5 P) .nil .nil) .nil) (.node (o198_4 P) (.node (o326_6 P) .nil .nil) .nil)) (.node (o102_4 P) (.node (o166_4 P) (.node (o294_6 P) .nil .nil) .nil) (.node (o230_5 P) .nil .nil))) (.node (o54_2 P) (.node (o86_4 P) (.node (o150_4 P) (.node (o278_5 P) .nil .nil) .nil) (.node (o214_4 P) (.node (o342_6 P) .nil .nil) .nil)) (.node (o118_4 P) (.node (o182_4 P) (.node (o310_6 P) .nil .nil) .nil) (.node (o246_5 P) .nil .nil)))) (.node (o30_2 P) (.node (o46_2 P) (.node (o78_4 P) (.node (o142_4 P) (.node (o270_5 P) .nil .nil) .nil) (.node (o206_4 P) (.node (o334_6 P) .nil .nil) .nil)) (.node (o110_4 P) (.node (o174_4 P) (.node (o302_6 P) .nil .nil) .nil) (.node (o238_5 P) .nil .nil))) (.node (o62_2 P) (.node (o94_4 P) (.node (o158_4 P) (.node (o286_6 P) .nil .nil) .nil) (.node (o222_6 P) (.node (o350_6 P) .nil .nil) .nil)) (.node (o126_4 P) (.node (o190_4 P) (.node (o318_6 P) .nil .nil) .nil) (.node (o254_5 P) .nil .nil))))))))
noncomputable def C6 (P : Params) (os : OsState) : SharedT := ⟨T6 P, nat_lit 353, (boot_heap P).life, #[], boot_drawn, nat_lit 617, os⟩
abbrev pos6 : Pos := { line := 183, col := 0, endLine := 208, endCol := 59 }
noncomputable def o3_8 : Params → Obj := fun P => { cls := Value.type "dict", data := Data.dict #[{ hash := PyData.keyHash P (Str.ofString "__name__"), key := Value.str (Str.ofString "__name__") 165, val := Value.str (Str.ofString "law_yi0046_01") 742 }, { hash := PyData.keyHash P (Str.ofString "__doc__"), key := Value.str (Str.ofString "__doc__") 166, val := Value.none }, { hash := PyData.keyHash P (Str.ofString "__package__"), key := Value.str (Str.ofString "__package__") 167, val := Value.none }, { hash := PyData.keyHash P (Str.ofString "__loader__"), key := Value.str (Str.ofString "__loader__") 168, val := Value.builtin "__main__.__loader__#opaque" }, { hash := PyData.keyHash P (Str.ofString "__spec__"), key := Value.str (Str.ofString "__spec__") 169, val := Value.none }, { hash := PyData.keyHash P (Str.ofString "__annotations__"), key := Value.str (Str.ofString "__annotations__") 170, val := Value.ref 6 }, { hash := PyData.keyHash P (Str.ofString "__builtins__"), key := Value.str (Str.ofString "__builtins__") 171, val := Value.ref 4 }, { hash := PyData.keyHash P (Str.ofString "__file__"), key := Value.str (Str.ofString "__file__") 173, val := Value.str (Str.ofString "/claim/cut.py") 172 }, { hash := PyData.keyHash P (Str.ofString "__cached__"), key := Value.str (Str.ofString "__cached__") 174, val := Value.none }, { hash := PyData.keyHash P (Str.ofString "_wall"), key := Value.str (Str.ofString "_wall") 193, val := Value.ref 21 }, { hash := PyData.keyHash P (Str.ofString "GenericPolynomialRing"), key := Value.str (Str.ofString "GenericPolynomialRing") 248, val := Value.ref 59 }, { hash := PyData.keyHash P (Str.ofString "GenericPolynomial"), key := Value.str (Str.ofString "GenericPolynomial") 447, val := Value.ref 222 }, { hash := PyData.keyHash P (Str.ofString "PolynomialRing"), key := Value.str (Str.ofString "PolynomialRing") 533, val := Value.ref 282 }, { hash := PyData.keyHash P (Str.ofString "Polynomial"), key := Value.str (Str.ofString "Polynomial") 616, val := Value.ref 350 }, { hash := PyData.keyHash P (Str.ofString "PolynomialNTT"), key := Value.str (Str.ofString "PolynomialNTT") 741, val := Value.ref 426 }] 15 }
noncomputable def o12_8 : Params → Obj := fun P => { cls := Value.none, data := Data.fields #[Value.int 1 0, Value.int 0 0, Value.ref 20, Value.int 5 0, Value.int 0 0, Value.ref 27, Value.int 23 0, Value.int 0 0, Value.ref 69, Value.int 152 0, Value.int 0 0, Value.ref 232, Value.int 183 0, Value.int 0 0, Value.ref 290, Value.int 209 0, Value.int 0 0, Value.ref 358] }
noncomputable def o350_8 : Params → Obj := fun P => { cls := Value.type "type", data := Data.cls { name := Str.ofString "Polynomial", bases := [Value.ref 222], mro := [Value.ref 350, Value.ref 222, Value.type "object"], ns := 349, qualname := Str.ofString "Polynomial", subclasses := [Value.ref 426] }, slots := #[some (Value.ref 285), none, some (Value.str (Str.ofString "Polynomial") 534), some (Value.str (Str.ofString "Polynomial") 542), some (Value.builtin "object.__new__"), some (Value.bool true)] }
noncomputable def o353_8 : Params → Obj := fun P => { cls := Value.type "tuple", data := Data.seq #[Value.ref 350] }
noncomputable def o354_8 : Params → Obj := fun P => { cls := Value.type "builtin_function_or_method", data := Data.fields #[Value.builtin "type.__prepare__", Value.type "type"] }
noncomputable def o355_8 : Params → Obj := fun P => { cls := Value.type "dict", data := Data.dict #[{ hash := PyData.keyHash P (Str.ofString "__module__"), key := Value.str (Str.ofString "__module__") 624, val := Value.str (Str.ofString "kyber_py.polynomials.polynomials") 448 }, { hash := PyData.keyHash P (Str.ofString "__qualname__"), key := Value.str (Str.ofString "__qualname__") 626, val := Value.str (Str.ofString "PolynomialNTT") 625 }, { hash := PyData.keyHash P (Str.ofString "__firstlineno__"), key := Value.str (Str.ofString "__firstlineno__") 628, val := Value.int 209 627 }, { hash := PyData.keyHash P (Str.ofString "__init__"), key := Value.str (Str.ofString "__init__") 637, val := Value.ref 366 }, { hash := PyData.keyHash P (Str.ofString "to_ntt"), key := Value.str (Str.ofString "to_ntt") 644, val := Value.ref 373 }, { hash := PyData.keyHash P (Str.ofString "from_ntt"), key := Value.str (Str.ofString "from_ntt") 661, val := Value.ref 380 }, { hash := PyData.keyHash P (Str.ofString "_ntt_base_multiplication"), key := Value.str (Str.ofString "_ntt_base_multiplication") 686, val := Value.ref 389 }, { hash := PyData.keyHash P (Str.ofString "_ntt_coefficient_multiplication"), key := Value.str (Str.ofString "_ntt_coefficient_multiplication") 702, val := Value.ref 397 }, { hash := PyData.keyHash P (Str.ofString "_ntt_multiplication"), key := Value.str (Str.ofString "_ntt_multiplication") 711, val := Value.ref 404 }, { hash := PyData.keyHash P (Str.ofString "__add__"), key := Value.str (Str.ofString "__add__") 720, val := Value.ref 411 }, { hash := PyData.keyHash P (Str.ofString "__sub__"), key := Value.str (Str.ofString "__sub__") 729, val := Value.ref 418 }, { hash := PyData.keyHash P (Str.ofString "__mul__"), key := Value.str (Str.ofString "__mul__") 735, val := Value.ref 423 }, { hash := PyData.keyHash P (Str.ofString "__static_attributes__"), key := Value.str (Str.ofString "__static_attributes__") 738, val := Value.ref 424 }] 13 }
noncomputable def o356_8 : Params → Obj := fun P => { cls := Value.type "tuple", data := Data.seq #[] }
noncomputable def o357_8 : Params → Obj := fun P => { cls := Value.none, data := Data.fields #[Value.int 211 0, Value.int 4 0, Value.ref 365, Value.int 215 0, Value.int 4 0, Value.ref 372, Value.int 218 0, Value.int 4 0, Value.ref 379, Value.int 242 0, Value.int 4 0, Value.ref 386, Value.int 247 0, Value.int 4 0, Value.ref 396, Value.int 256 0, Value.int 4 0, Value.ref 403, Value.int 260 0, Value.int 4 0, Value.ref 410, Value.int 264 0, Value.int 4 0, Value.ref 417, Value.int 268 0, Value.int 4 0, Value.ref 422] }
noncomputable def o358_8 : Params → Obj := fun P => { cls := Value.type "code", data := Data.fields #[Value.str (Str.ofString "PolynomialNTT") 619, Value.str (Str.ofString "PolynomialNTT") 620, Value.str (Str.ofString "/claim/cut.py") 621, Value.int 209 0, Value.int 0 0, Value.int 0 0, Value.int 0 0, Value.int 0 0, Value.ref 356, Value.bool false, Value.int 181 0, Value.ref 357, Value.none, Value.none, Value.none, Value.none, Value.int 622 0, Value.int 209 0, Value.str (Str.ofString "/claim/cut.py") 623] }
noncomputable def o359_8 : Params → Obj := fun P => { cls := Value.type "frame", slots := #[some (Value.ref 358), some (Value.ref 3), some (Value.ref 355), none, some (Value.str (Str.ofString "kyber_py.polynomials.polynomials") 448), none, some (Value.ref 0)] }
noncomputable def o360_8 : Params → Obj := fun P => { cls := Value.type "tuple", data := Data.seq #[] }
noncomputable def o361_8 : Params → Obj := fun P => { cls := Value.none, data := Data.fields #[] }
noncomputable def o362_8 : Params → Obj := fun P => { cls := Value.type "tuple", data := Data.seq #[Value.str (Str.ofString "self") 632, Value.str (Str.ofString "parent") 633, Value.str (Str.ofString "coefficients") 634] }
noncomputable def o363_8 : Params → Obj := fun P => { cls := Value.type "tuple", data := Data.seq #[] }
noncomputable def o364_8 : Params → Obj := fun P => { cls := Value.none, data := Data.func { name := Str.ofString "__init__", qualname := Str.ofString "PolynomialNTT.__init__", params := P_7_0, body := FuncBody.stmts B_7_0, scope := S_7_0, globals := 0, closure := [], defaults := Value.none, kwdefaults := Value.none } }
noncomputable def o365_8 : Params → Obj := fun P => { cls := Value.type "code", data := Data.fields #[Value.str (Str.ofString "__init__") 629, Value.str (Str.ofString "PolynomialNTT.__init__") 630, Value.str (Str.ofString "/claim/cut.py") 631, Value.int 211 0, Value.int 3 0, Value.int 0 0, Value.int 0 0, Value.int 3 0, Value.ref 360, Value.bool true, Value.int 181 0, Value.ref 361, Value.none, Value.ref 362, Value.ref 363, Value.ref 364, Value.int 635 0, Value.int 211 0, Value.str (Str.ofString "/claim/cut.py") 636] }
noncomputable def o366_8 : Params → Obj := fun P => { cls := Value.type "function", data := Data.func { name := Str.ofString "__init__", qualname := Str.ofString "PolynomialNTT.__init__", params := P_7_0, body := FuncBody.stmts B_7_0, scope := S_7_0, globals := 3, closure := [], defaults := Value.none, kwdefaults := Value.none, pyModule := Value.str (Str.ofString "kyber_py.polynomials.polynomials") 448, code := Value.ref 365 } }
noncomputable def o367_8 : Params → Obj := fun P => { cls := Value.type "tuple", data := Data.seq #[] }
noncomputable def o368_8 : Params → Obj := fun P => { cls := Value.none, data := Data.fields #[] }
noncomputable def o369_8 : Params → Obj := fun P => { cls := Value.type "tuple", data := Data.seq #[Value.str (Str.ofString "self") 641] }
noncomputable def o370_8 : Params → Obj := fun P => { cls := Value.type "tuple", data := Data.seq #[] }
noncomputable def o371_8 : Params → Obj := fun P => { cls := Value.none, data := Data.func { name := Str.ofString "to_ntt", qualname := Str.ofString "PolynomialNTT.to_ntt", params := P_7_1, body := FuncBody.stmts B_7_1, scope := S_7_1, globals := 0, closure := [], defaults := Value.none, kwdefaults := Value.none } }
noncomputable def o372_8 : Params → Obj := fun P => { cls := Value.type "code", data := Data.fields #[Value.str (Str.ofString "to_ntt") 638, Value.str (Str.ofString "PolynomialNTT.to_ntt") 639, Value.str (Str.ofString "/claim/cut.py") 640, Value.int 215 0, Value.int 1 0, Value.int 0 0, Value.int 0 0, Value.int 3 0, Value.ref 367, Value.bool true, Value.int 181 0, Value.ref 368, Value.none, Value.ref 369, Value.ref 370, Value.ref 371, Value.int 642 0, Value.int 215 0, Value.str (Str.ofString "/claim/cut.py") 643] }
noncomputable def o373_8 : Params → Obj := fun P => { cls := Value.type "function", data := Data.func { name := Str.ofString "to_ntt", qualname := Str.ofString "PolynomialNTT.to_ntt", params := P_7_1, body := FuncBody.stmts B_7_1, scope := S_7_1, globals := 3, closure := [], defaults := Value.none, kwdefaults := Value.none, pyModule := Value.str (Str.ofString "kyber_py.polynomials.polynomials") 448, code := Value.ref 372 } }
noncomputable def o374_8 : Params → Obj := fun P => { cls := Value.type "tuple", data := Data.seq #[] }
noncomputable def o375_8 : Params → Obj := fun P => { cls := Value.none, data := Data.fields #[] }
noncomputable def o376_8 : Params → Obj := fun P => { cls := Value.type "tuple", data := Data.seq #[Value.str (Str.ofString "self") 648, Value.str (Str.ofString "l") 649, Value.str (Str.ofString "l_upper") 650, Value.str (Str.ofString "k") 651, Value.str (Str.ofString "coeffs") 652, Value.str (Str.ofString "zetas") 653, Value.str (Str.ofString "start") 654, Value.str (Str.ofString "zeta") 655, Value.str (Str.ofString "j") 656, Value.str (Str.ofString "t") 657, Value.str (Str.ofString "f") 658] }
noncomputable def o377_8 : Params → Obj := fun P => { cls := Value.type "tuple", data := Data.seq #[] }
noncomputable def o378_8 : Params → Obj := fun P => { cls := Value.none, data := Data.func { name := Str.ofString "from_ntt", qualname := Str.ofString "PolynomialNTT.from_ntt", params := P_7_2, body := FuncBody.stmts B_7_2, scope := S_7_2, globals := 0, closure := [], defaults := Value.none, kwdefaults := Value.none } }
noncomputable def o379_8 : Params → Obj := fun P => { cls := Value.type "code", data := Data.fields #[Value.str (Str.ofString "from_ntt") 645, Value.str (Str.ofString "PolynomialNTT.from_ntt") 646, Value.str (Str.ofString "/claim/cut.py") 647, Value.int 218 0, Value.int 1 0, Value.int 0 0, Value.int 0 0, Value.int 3 0, Value.ref 374, Value.bool true, Value.int 181 0, Value.ref 375, Value.none, Value.ref 376, Value.ref 377, Value.ref 378, Value.int 659 0, Value.int 218 0, Value.str (Str.ofString "/claim/cut.py") 660] }
noncomputable def o380_8 : Params → Obj := fun P => { cls := Value.type "function", data := Data.func { name := Str.ofString "from_ntt", qualname := Str.ofString "PolynomialNTT.from_ntt", params := P_7_2, body := FuncBody.stmts B_7_2, scope := S_7_2, globals := 3, closure := [], defaults := Value.none, kwdefaults := Value.none, pyModule := Value.str (Str.ofString "kyber_py.polynomials.polynomials") 448, code := Value.ref 379 } }
noncomputable def o381_8 : Params → Obj := fun P => { cls := Value.type "tuple", data := Data.seq #[] }
noncomputable def o382_8 : Params → Obj := fun P => { cls := Value.none, data := Data.fields #[] }
noncomputable def o383_8 : Params → Obj := fun P => { cls := Value.type "tuple", data := Data.seq #[Value.str (Str.ofString "a0") 665, Value.str (Str.ofString "a1") 666, Value.str (Str.ofString "b0") 667, Value.str (Str.ofString "b1") 668, Value.str (Str.ofString "zeta") 669, Value.str (Str.ofString "r0") 670, Value.str (Str.ofString "r1") 671] }
noncomputable def o384_8 : Params → Obj := fun P => { cls := Value.type "tuple", data := Data.seq #[] }
noncomputable def o385_8 : Params → Obj := fun P => { cls := Value.none, data := Data.func { name := Str.ofString "_ntt_base_multiplication", qualname := Str.ofString "PolynomialNTT._ntt_base_multiplication", params := P_7_3, body := FuncBody.stmts B_7_3, scope := S_7_3, globals := 0, closure := [], defaults := Value.none, kwdefaults := Value.none } }
noncomputable def o386_8 : Params → Obj := fun P => { cls := Value.type "code", data := Data.fields #[Value.str (Str.ofString "_ntt_base_multiplication") 662, Value.str (Str.ofString "PolynomialNTT._ntt_base_multiplication") 663, Value.str (Str.ofString "/claim/cut.py") 664, Value.int 241 0, Value.int 5 0, Value.int 0 0, Value.int 0 0, Value.int 3 0, Value.ref 381, Value.bool true, Value.int 181 0, Value.ref 382, Value.none, Value.ref 383, Value.ref 384, Value.ref 385, Value.int 672 0, Value.int 241 0, Value.str (Str.ofString "/claim/cut.py") 673] }
noncomputable def o387_8 : Params → Obj := fun P => { cls := Value.type "function", data := Data.func { name := Str.ofString "_ntt_base_multiplication", qualname := Str.ofString "PolynomialNTT._ntt_base_multiplication", params := P_7_3, body := FuncBody.stmts B_7_3, scope := S_7_3, globals := 3, closure := [], defaults := Value.none, kwdefaults := Value.none, pyModule := Value.str (Str.ofString "kyber_py.polynomials.polynomials") 448, annotations := some 390, code := Value.ref 386 } }
noncomputable def o388_8 : Params → Obj := fun P => { cls := Value.type "dict", data := Data.dict #[{ hash := PyData.keyHash P (Str.ofString "__module__"), key := Value.str (Str.ofString "__module__") 675, val := Value.str (Str.ofString "kyber_py.polynomials.polynomials") 448 }, { hash := PyData.keyHash P (Str.ofString "__name__"), key := Value.str (Str.ofString "__name__") 678, val := Value.str (Str.ofString "_ntt_base_multiplication") 677 }, { hash := PyData.keyHash P (Str.ofString "__qualname__"), key := Value.str (Str.ofString "__qualname__") 681, val := Value.str (Str.ofString "PolynomialNTT._ntt_base_multiplication") 680 }, { hash := PyData.keyHash P (Str.ofString "__doc__"), key := Value.str (Str.ofString "__doc__") 683, val := Value.none }, { hash := PyData.keyHash P (Str.ofString "__annotations__"), key := Value.str (Str.ofString "__annotations__") 685, val := Value.ref 390 }] 5 }
noncomputable def o389_8 : Params → Obj := fun P => { cls := Value.type "staticmethod", dict := some 388, data := Data.fields #[Value.ref 387, Value.bool false] }
noncomputable def o390_8 : Params → Obj := fun P => { cls := Value.type "dict", data := Data.dict #[] }
noncomputable def o391_8 : Params → Obj := fun P => { cls := Value.type "tuple", data := Data.seq #[] }
noncomputable def o392_8 : Params → Obj := fun P => { cls := Value.none, data := Data.fields #[] }
noncomputable def o393_8 : Params → Obj := fun P => { cls := Value.type "tuple", data := Data.seq #[Value.str (Str.ofString "self") 690, Value.str (Str.ofString "f_coeffs") 691, Value.str (Str.ofString "g_coeffs") 692, Value.str (Str.ofString "new_coeffs") 693, Value.str (Str.ofString "zetas") 694, Value.str (Str.ofString "i") 695, Value.str (Str.ofString "r0") 696, Value.str (Str.ofString "r1") 697, Value.str (Str.ofString "r2") 698, Value.str (Str.ofString "r3") 699] }
noncomputable def o394_8 : Params → Obj := fun P => { cls := Value.type "tuple", data := Data.seq #[] }
noncomputable def o395_8 : Params → Obj := fun P => { cls := Value.none, data := Data.func { name := Str.ofString "_ntt_coefficient_multiplication", qualname := Str.ofString "PolynomialNTT._ntt_coefficient_multiplication", params := P_7_4, body := FuncBody.stmts B_7_4, scope := S_7_4, globals := 0, closure := [], defaults := Value.none, kwdefaults := Value.none } }
noncomputable def o396_8 : Params → Obj := fun P => { cls := Value.type "code", data := Data.fields #[Value.str (Str.ofString "_ntt_coefficient_multiplication") 687, Value.str (Str.ofString "PolynomialNTT._ntt_coefficient_multiplication") 688, Value.str (Str.ofString "/claim/cut.py") 689, Value.int 247 0, Value.int 3 0, Value.int 0 0, Value.int 0 0, Value.int 3 0, Value.ref 391, Value.bool true, Value.int 181 0, Value.ref 392, Value.none, Value.ref 393, Value.ref 394, Value.ref 395, Value.int 700 0, Value.int 247 0, Value.str (Str.ofString "/claim/cut.py") 701] }
noncomputable def o397_8 : Params → Obj := fun P => { cls := Value.type "function", data := Data.func { name := Str.ofString "_ntt_coefficient_multiplication", qualname := Str.ofString "PolynomialNTT._ntt_coefficient_multiplication", params := P_7_4, body := FuncBody.stmts B_7_4, scope := S_7_4, globals := 3, closure := [], defaults := Value.none, kwdefaults := Value.none, pyModule := Value.str (Str.ofString "kyber_py.polynomials.polynomials") 448, code := Value.ref 396 } }
noncomputable def o398_8 : Params → Obj := fun P => { cls := Value.type "tuple", data := Data.seq #[] }
noncomputable def o399_8 : Params → Obj := fun P => { cls := Value.none, data := Data.fields #[] }
noncomputable def o400_8 : Params → Obj := fun P => { cls := Value.type "tuple", data := Data.seq #[Value.str (Str.ofString "self") 706, Value.str (Str.ofString "other") 707, Value.str (Str.ofString "new_coeffs") 708] }
noncomputable def o401_8 : Params → Obj := fun P => { cls := Value.type "tuple", data := Data.seq #[] }
noncomputable def o402_8 : Params → Obj := fun P => { cls := Value.none, data := Data.func { name := Str.ofString "_ntt_multiplication", qualname := Str.ofString "PolynomialNTT._ntt_multiplication", params := P_7_5, body := FuncBody.stmts B_7_5, scope := S_7_5, globals := 0, closure := [], defaults := Value.none, kwdefaults := Value.none } }
noncomputable def o403_8 : Params → Obj := fun P => { cls := Value.type "code", data := Data.fields #[Value.str (Str.ofString "_ntt_multiplication") 703, Value.str (Str.ofString "PolynomialNTT._ntt_multiplication") 704, Value.str (Str.ofString "/claim/cut.py") 705, Value.int 256 0, Value.int 2 0, Value.int 0 0, Value.int 0 0, Value.int 3 0, Value.ref 398, Value.bool true, Value.int 181 0, Value.ref 399, Value.none, Value.ref 400, Value.ref 401, Value.ref 402, Value.int 709 0, Value.int 256 0, Value.str (Str.ofString "/claim/cut.py") 710] }
noncomputable def o404_8 : Params → Obj := fun P => { cls := Value.type "function", data := Data.func { name := Str.ofString "_ntt_multiplication", qualname := Str.ofString "PolynomialNTT._ntt_multiplication", params := P_7_5, body := FuncBody.stmts B_7_5, scope := S_7_5, globals := 3, closure := [], defaults := Value.none, kwdefaults := Value.none, pyModule := Value.str (Str.ofString "kyber_py.polynomials.polynomials") 448, code := Value.ref 403 } }
noncomputable def o405_8 : Params → Obj := fun P => { cls := Value.type "tuple", data := Data.seq #[] }
noncomputable def o406_8 : Params → Obj := fun P => { cls := Value.none, data := Data.fields #[] }
noncomputable def o407_8 : Params → Obj := fun P => { cls := Value.type "tuple", data := Data.seq #[Value.str (Str.ofString "self") 715, Value.str (Str.ofString "other") 716, Value.str (Str.ofString "new_coeffs") 717] }
noncomputable def o408_8 : Params → Obj := fun P => { cls := Value.type "tuple", data := Data.seq #[] }
noncomputable def o409_8 : Params → Obj := fun P => { cls := Value.none, data := Data.func { name := Str.ofString "__add__", qualname := Str.ofString "PolynomialNTT.__add__", params := P_7_6, body := FuncBody.stmts B_7_6, scope := S_7_6, globals := 0, closure := [], defaults := Value.none, kwdefaults := Value.none } }
noncomputable def o410_8 : Params → Obj := fun P => { cls := Value.type "code", data := Data.fields #[Value.str (Str.ofString "__add__") 712, Value.str (Str.ofString "PolynomialNTT.__add__") 713, Value.str (Str.ofString "/claim/cut.py") 714, Value.int 260 0, Value.int 2 0, Value.int 0 0, Value.int 0 0, Value.int 3 0, Value.ref 405, Value.bool true, Value.int 181 0, Value.ref 406, Value.none, Value.ref 407, Value.ref 408, Value.ref 409, Value.int 718 0, Value.int 260 0, Value.str (Str.ofString "/claim/cut.py") 719] }
noncomputable def o411_8 : Params → Obj := fun P => { cls := Value.type "function", data := Data.func { name := Str.ofString "__add__", qualname := Str.ofString "PolynomialNTT.__add__", params := P_7_6, body := FuncBody.stmts B_7_6, scope := S_7_6, globals := 3, closure := [], defaults := Value.none, kwdefaults := Value.none, pyModule := Value.str (Str.ofString "kyber_py.polynomials.polynomials") 448, code := Value.ref 410 } }
noncomputable def o412_8 : Params → Obj := fun P => { cls := Value.type "tuple", data := Data.seq #[] }
noncomputable def o413_8 : Params → Obj := fun P => { cls := Value.none, data := Data.fields #[] }
noncomputable def o414_8 : Params → Obj := fun P => { cls := Value.type "tuple", data := Data.seq #[Value.str (Str.ofString "self") 724, Value.str (Str.ofString "other") 725, Value.str (Str.ofString "new_coeffs") 726] }
noncomputable def o415_8 : Params → Obj := fun P => { cls := Value.type "tuple", data := Data.seq #[] }
noncomputable def o416_8 : Params → Obj := fun P => { cls := Value.none, data := Data.func { name := Str.ofString "__sub__", qualname := Str.ofString "PolynomialNTT.__sub__", params := P_7_7, body := FuncBody.stmts B_7_7, scope := S_7_7, globals := 0, closure := [], defaults := Value.none, kwdefaults := Value.none } }
noncomputable def o417_8 : Params → Obj := fun P => { cls := Value.type "code", data := Data.fields #[Value.str (Str.ofString "__sub__") 721, Value.str (Str.ofString "PolynomialNTT.__sub__") 722, Value.str (Str.ofString "/claim/cut.py") 723, Value.int 264 0, Value.int 2 0, Value.int 0 0, Value.int 0 0, Value.int 3 0, Value.ref 412, Value.bool true, Value.int 181 0, Value.ref 413, Value.none, Value.ref 414, Value.ref 415, Value.ref 416, Value.int 727 0, Value.int 264 0, Value.str (Str.ofString "/claim/cut.py") 728] }
noncomputable def o418_8 : Params → Obj := fun P => { cls := Value.type "function", data := Data.func { name := Str.ofString "__sub__", qualname := Str.ofString "PolynomialNTT.__sub__", params := P_7_7, body := FuncBody.stmts B_7_7, scope := S_7_7, globals := 3, closure := [], defaults := Value.none, kwdefaults := Value.none, pyModule := Value.str (Str.ofString "kyber_py.polynomials.polynomials") 448, code := Value.ref 417 } }
noncomputable def o419_8 : Params → Obj := fun P => { cls := Value.type "tuple", data := Data.seq #[] }
noncomputable def o420_8 : Params → Obj := fun P => { cls := Value.none, data := Data.fields #[] }
noncomputable def o421_8 : Params → Obj := fun P => { cls := Value.none, data := Data.func { name := Str.ofString "__mul__", qualname := Str.ofString "PolynomialNTT.__mul__", params := P_7_8, body := FuncBody.stmts B_7_8, scope := S_7_8, globals := 0, closure := [], defaults := Value.none, kwdefaults := Value.none } }
noncomputable def o422_8 : Params → Obj := fun P => { cls := Value.type "code", data := Data.fields #[Value.str (Str.ofString "__mul__") 730, Value.str (Str.ofString "PolynomialNTT.__mul__") 731, Value.str (Str.ofString "/claim/cut.py") 732, Value.int 268 0, Value.int 2 0, Value.int 0 0, Value.int 0 0, Value.int 3 0, Value.ref 419, Value.bool true, Value.int 181 0, Value.ref 420, Value.none, Value.none, Value.none, Value.ref 421, Value.int 733 0, Value.int 268 0, Value.str (Str.ofString "/claim/cut.py") 734] }
noncomputable def o423_8 : Params → Obj := fun P => { cls := Value.type "function", data := Data.func { name := Str.ofString "__mul__", qualname := Str.ofString "PolynomialNTT.__mul__", params := P_7_8, body := FuncBody.stmts B_7_8, scope := S_7_8, globals := 3, closure := [], defaults := Value.none, kwdefaults := Value.none, pyModule := Value.str (Str.ofString "kyber_py.polynomials.polynomials") 448, code := Value.ref 422 } }
noncomputable def o424_8 : Params → Obj := fun P => { cls := Value.type "tuple", data := Data.seq #[Value.str (Str.ofString "coeffs") 736, Value.str (Str.ofString "parent") 737] }
noncomputable def o425_8 : Params → Obj := fun P => { cls := Value.type "dict", data := Data.dict #[{ hash := PyData.keyHash P (Str.ofString "__module__"), key := Value.str (Str.ofString "__module__") 624, val := Value.str (Str.ofString "kyber_py.polynomials.polynomials") 448 }, { hash := PyData.keyHash P (Str.ofString "__firstlineno__"), key := Value.str (Str.ofString "__firstlineno__") 628, val := Value.int 209 627 }, { hash := PyData.keyHash P (Str.ofString "__init__"), key := Value.str (Str.ofString "__init__") 637, val := Value.ref 366 }, { hash := PyData.keyHash P (Str.ofString "to_ntt"), key := Value.str (Str.ofString "to_ntt") 644, val := Value.ref 373 }, { hash := PyData.keyHash P (Str.ofString "from_ntt"), key := Value.str (Str.ofString "from_ntt") 661, val := Value.ref 380 }, { hash := PyData.keyHash P (Str.ofString "_ntt_base_multiplication"), key := Value.str (Str.ofString "_ntt_base_multiplication") 686, val := Value.ref 389 }, { hash := PyData.keyHash P (Str.ofString "_ntt_coefficient_multiplication"), key := Value.str (Str.ofString "_ntt_coefficient_multiplication") 702, val := Value.ref 397 }, { hash := PyData.keyHash P (Str.ofString "_ntt_multiplication"), key := Value.str (Str.ofString "_ntt_multiplication") 711, val := Value.ref 404 }, { hash := PyData.keyHash P (Str.ofString "__add__"), key := Value.str (Str.ofString "__add__") 720, val := Value.ref 411 }, { hash := PyData.keyHash P (Str.ofString "__sub__"), key := Value.str (Str.ofString "__sub__") 729, val := Value.ref 418 }, { hash := PyData.keyHash P (Str.ofString "__mul__"), key := Value.str (Str.ofString "__mul__") 735, val := Value.ref 423 }, { hash := PyData.keyHash P (Str.ofString "__static_attributes__"), key := Value.str (Str.ofString "__static_attributes__") 738, val := Value.ref 424 }, { hash := PyData.keyHash P (Str.ofString "__doc__"), key := Value.str (Str.ofString "__doc__") 739, val := Value.none }] 2 }
noncomputable def o426_8 : Params → Obj := fun P => { cls := Value.type "type", data := Data.cls { name := Str.ofString "PolynomialNTT", bases := [Value.ref 350], mro := [Value.ref 426, Value.ref 350, Value.ref 222, Value.type "object"], ns := 425, qualname := Str.ofString "PolynomialNTT" }, slots := #[some (Value.ref 353), none, some (Value.str (Str.ofString "PolynomialNTT") 617), some (Value.str (Str.ofString "PolynomialNTT") 625), some (Value.builtin "object.__new__"), some (Value.bool true)] }
noncomputable def o427_8 : Params → Obj := fun P => { cls := Value.type "super", data := Data.fields #[Value.ref 426, Value.ref 426, Value.ref 426] }
noncomputable def o428_8 : Params → Obj := fun P => { cls := Value.type "builtin_function_or_method", data := Data.fields #[Value.builtin "object.__init_subclass__", Value.ref 426] }
noncomputable def T8 : Params → BT := fun P => (.node (o0_a P) (.node (o1_a P) (.node (o3_8 P) (.node (o7_a P) (.node (o15_2 P) (.node (o31_2 P) (.node (o63_2 P) (.node (o127_4 P) (.node (o255_5 P) .nil .nil) (.node (o383_8 P) .nil .nil)) (.node (o191_4 P) (.node (o319_6 P) .nil .nil) .nil)) (.node (o95_4 P) (.node (o159_4 P) (.node (o287_6 P) .nil .nil) (.node (o415_8 P) .nil .nil)) (.node (o223_4 P) (.node (o351_6 P) .nil .nil) .nil))) (.node (o47_2 P) (.node (o79_4 P) (.node (o143_4 P) (.node (o271_5 P) .nil .nil) (.node (o399_8 P) .nil .nil)) (.node (o207_4 P) (.node (o335_6 P) .nil .nil) .nil)) (.node (o111_4 P) (.node (o175_4 P) (.node (o303_6 P) .nil .nil) .nil) (.node (o239_5 P) (.node (o367_8 P) .nil .nil) .nil)))) (.node (o23_2 P) (.node (o39_2 P) (.node (o71_4 P) (.node (o135_4 P) (.node (o263_5 P) .nil .nil) (.node (o391_8 P) .nil .nil)) (.node (o199_4 P) (.node (o327_6 P) .nil .nil) .nil)) (.node (o103_4 P) (.node (o167_4 P) (.node (o295_6 P) .nil .nil) (.node (o423_8 P) .nil .nil)) (.node (o231_5 P) (.node (o359_8 P) .nil .nil) .nil))) (.node (o55_2 P) (.node (o87_4 P) (.node (o151_4 P) (.node (o279_5 P) .nil .nil) (.node (o407_8 P) .nil .nil)) (.node (o215_4 P) (.node (o343_6 P) .nil .nil) .nil)) (.node (o119_4 P) (.node (o183_4 P) (.node (o311_6 P) .nil .nil) .nil) (.node (o247_5 P) (.node (o375_8 P) .nil .nil) .nil))))) (.node (o11_a P) (.node (o19_2 P) (.node (o35_2 P) (.node (o67_4 P) (.node (o131_4 P) (.node (o259_5 P) .nil .nil) (.node (o387_8 P) .nil .nil)) (.node (o195_4 P) (.node (o323_6 P) .nil .nil) .nil)) (.node (o99_4 P) (.node (o163_4 P) (.node (o291_6 P) .nil .nil) (.node (o419_8 P) .nil .nil)) (.node (o227_5 P) (.node (o355_8 P) .nil .nil) .nil))) (.node (o51_2 P) (.node (o83_4 P) (.node (o147_4 P) (.node (o275_5 P) .nil .nil) (.node (o403_8 P) .nil .nil)) (.node (o211_4 P) (.node (o339_6 P) .nil .nil) .nil)) (.node (o115_4 P) (.node (o179_4 P) (.node (o307_6 P) .nil .nil) .nil) (.node (o243_5 P) (.node (o371_8 P) .nil .nil) .nil)))) (.node (o27_2 P) (.node (o43_2 P) (.node (o75_4 P) (.node (o139_4 P) (.node (o267_5 P) .nil .nil) (.node (o395_8 P) .nil .nil)) (.node (o203_4 P) (.node (o331_6 P) .nil .nil) .nil)) (.node (o107_4 P) (.node (o171_4 P) (.node (o299_6 P) .nil .nil) (.node (o427_8 P) .nil .nil)) (.node (o235_5 P) (.node (o363_8 P) .nil .nil) .nil))) (.node (o59_5 P) (.node (o91_4 P) (.node (o155_4 P) (.node (o283_5 P) .nil .nil) (.node (o411_8 P) .nil .nil)) (.node (o219_4 P) (.node (o347_6 P) .nil .nil) .nil)) (.node (o123_4 P) (.node (o187_4 P) (.node (o315_6 P) .nil .nil) .nil) (.node (o251_5 P) (.node (o379_8 P) .nil .nil) .nil)))))) (.node (o5_a P) (.node (o9_a P) (.node (o17_2 P) (.node (o33_2 P) (.node (o65_4 P) (.node (o129_4 P) (.node (o257_5 P) .nil .nil) (.node (o385_8 P) .nil .nil)) (.node (o193_4 P) (.node (o321_6 P) .nil .nil) .nil)) (.node (o97_4 P) (.node (o161_4 P) (.node (o289_6 P) .nil .nil) (.node (o417_8 P) .nil .nil)) (.node (o225_4 P) (.node (o353_8 P) .nil .nil) .nil))) (.node (o49_2 P) (.node (o81_4 P) (.node (o145_4 P) (.node (o273_5 P) .nil .nil) (.node (o401_8 P) .nil .nil)) (.node (o209_4 P) (.node (o337_6 P) .nil .nil) .nil)) (.node (o113_4 P) (.node (o177_4 P) (.node (o305_6 P) .nil .nil) .nil) (.node (o241_5 P) (.node (o369_8 P) .nil .nil) .nil)))) (.node (o25_2 P) (.node (o41_2 P) (.node (o73_4 P) (.node (o137_4 P) (.node (o265_5 P) .nil .nil) (.node (o393_8 P) .nil .nil)) (.node (o201_4 P) (.node (o329_6 P) .nil .nil) .nil)) (.node (o105_4 P) (.node (o169_4 P) (.node (o297_6 P) .nil .nil) (.node (o425_8 P) .nil .nil)) (.node (o233_5 P) (.node (o361_8 P) .nil .nil) .nil))) (.node (o57_2 P) (.node (o89_4 P) (.node (o153_4 P) (.node (o281_5 P) .nil .nil) (.node (o409_8 P) .nil .nil)) (.node (o217_4 P) (.node (o345_6 P) .nil .nil) .nil)) (.node (o121_4 P) (.node (o185_4 P) (.node (o313_6 P) .nil .nil) .nil) (.node (o249_5 P) (.node (o377_8 P) .nil .nil) .nil))))) (.node (o13_a P) (.node (o21_2 P) (.node (o37_2 P) (.node (o69_4 P) (.node (o133_4 P) (.node (o261_5 P) .nil .nil) (.node (o389_8 P) .nil .nil)) (.node (o197_4 P) (.node (o325_6 P) .nil .nil) .nil)) (.node (o101_4 P) (.node (o165_4 P) (.node (o293_6 P) .nil .nil) (.node (o421_8 P) .nil .nil)) (.node (o229_5 P) (.node (o357_8 P) .nil .nil) .nil))) (.node (o53_2 P) (.node (o85_4 P) (.node (o149_4 P) (.node (o277_5 P) .nil .nil) (.node (o405_8 P) .nil .nil)) (.node (o213_4 P) (.node (o341_6 P) .nil .nil) .nil)) (.node (o117_4 P) (.node (o181_4 P) (.node (o309_6 P) .nil .nil) .nil) (.node (o245_5 P) (.node (o373_8 P) .nil .nil) .nil)))) (.node (o29_2 P) (.node (o45_2 P) (.node (o77_4 P) (.node (o141_4 P) (.node (o269_5 P) .nil .nil) (.node (o397_8 P) .nil .nil)) (.node (o205_4 P) (.node (o333_6 P) .nil .nil) .nil)) (.node (o109_4 P) (.node (o173_4 P) (.node (o301_6 P) .nil .nil) .nil) (.node (o237_5 P) (.node (o365_8 P) .nil .nil) .nil))) (.node (o61_2 P) (.node (o93_4 P) (.node (o157_4 P) (.node (o285_6 P) .nil .nil) (.node (o413_8 P) .nil .nil)) (.node (o221_4 P) (.node (o349_6 P) .nil .nil) .nil)) (.node (o125_4 P) (.node (o189_4 P) (.node (o317_6 P) .nil .nil) .nil) (.node (o253_5 P) (.node (o381_8 P) .nil .nil) .nil))))))) (.node (o2_a P) (.node (o4_a P) (.node (o8_a P) (.node (o16_2 P) (.node (o32_2 P) (.node (o64_4 P) (.node (o128_4 P) (.node (o256_5 P) .nil .nil) (.node (o384_8 P) .nil .nil)) (.node (o192_4 P) (.node (o320_6 P) .nil .nil) .nil)) (.node (o96_4 P) (.node (o160_4 P) (.node (o288_6 P) .nil .nil) (.node (o416_8 P) .nil .nil)) (.node (o224_4 P) (.node (o352_6 P) .nil .nil) .nil))) (.node (o48_2 P) (.node (o80_4 P) (.node (o144_4 P) (.node (o272_5 P) .nil .nil) (.node (o400_8 P) .nil .nil)) (.node (o208_4 P) (.node (o336_6 P) .nil .nil) .nil)) (.node (o112_4 P) (.node (o176_4 P) (.node (o304_6 P) .nil .nil) .nil) (.node (o240_5 P) (.node (o368_8 P) .nil .nil) .nil)))) (.node (o24_2 P) (.node (o40_2 P) (.node (o72_4 P) (.node (o136_4 P) (.node (o264_5 P) .nil .nil) (.node (o392_8 P) .nil .nil)) (.node (o200_4 P) (.node (o328_6 P) .nil .nil) .nil)) (.node (o104_4 P) (.node (o168_4 P) (.node (o296_6 P) .nil .nil) (.node (o424_8 P) .nil .nil)) (.node (o232_5 P) (.node (o360_8 P) .nil .nil) .nil))) (.node (o56_2 P) (.node (o88_4 P) (.node (o152_4 P) (.node (o280_5 P) .nil .nil) (.node (o408_8 P) .nil .nil)) (.node (o216_4 P) (.node (o344_6 P) .nil .nil) .nil)) (.node (o120_4 P) (.node (o184_4 P) (.node (o312_6 P) .nil .nil) .nil) (.node (o248_5 P) (.node (o376_8 P) .nil .nil) .nil))))) (.node (o12_8 P) (.node (o20_2 P) (.node (o36_2 P) (.node (o68_4 P) (.node (o132_4 P) (.node (o260_5 P) .nil .nil) (.node (o388_8 P) .nil .nil)) (.node (o196_4 P) (.node (o324_6 P) .nil .nil) .nil)) (.node (o100_4 P) (.node (o164_4 P) (.node (o292_6 P) .nil .nil) (.node (o420_8 P) .nil .nil)) (.node (o228_5 P) (.node (o356_8 P) .nil .nil) .nil))) (.node (o52_2 P) (.node (o84_4 P) (.node (o148_4 P) (.node (o276_5 P) .nil .nil) (.node (o404_8 P) .nil .nil)) (.node (o212_4 P) (.node (o340_6 P) .nil .nil) .nil)) (.node (o116_4 P) (.node (o180_4 P) (.node (o308_6 P) .nil .nil) .nil) (.node (o244_5 P) (.node (o372_8 P) .nil .nil) .nil)))) (.node (o28_2 P) (.node (o44_2 P) (.node (o76_4 P) (.node (o140_4 P) (.node (o268_5 P) .nil .nil) (.node (o396_8 P) .nil .nil)) (.node (o204_4 P) (.node (o332_6 P) .nil .nil) .nil)) (.node (o108_4 P) (.node (o172_4 P) (.node (o300_6 P) .nil .nil) (.node (o428_8 P) .nil .nil)) (.node (o236_5 P) (.node (o364_8 P) .nil .nil) .nil))) (.node (o60_2 P) (.node (o92_4 P) (.node (o156_4 P) (.node (o284_5 P) .nil .nil) (.node (o412_8 P) .nil .nil)) (.node (o220_4 P) (.node (o348_6 P) .nil .nil) .nil)) (.node (o124_4 P) (.node (o188_4 P) (.node (o316_6 P) .nil .nil) .nil) (.node (o252_5 P) (.node (o380_8 P) .nil .nil) .nil)))))) (.node (o6_a P) (.node (o10_a P) (.node (o18_2 P) (.node (o34_2 P) (.node (o66_4 P) (.node (o130_4 P) (.node (o258_5 P) .nil .nil) (.node (o386_8 P) .nil .nil)) (.node (o194_4 P) (.node (o322_6 P) .nil .nil) .nil)) (.node (o98_4 P) (.node (o162_4 P) (.node (o290_6 P) .nil .nil) (.node (o418_8 P) .nil .nil)) (.node (o226_4 P) (.node (o354_8 P) .nil .nil) .nil))) (.node (o50_2 P) (.node (o82_4 P) (.node (o146_4 P) (.node (o274_5 P) .nil .nil) (.node (o402_8 P) .nil .nil)) (.node (o210_4 P) (.node (o338_6 P) .nil .nil) .nil)) (.node (o114_4 P) (.node (o178_4 P) (.node (o306_6 P) .nil .nil) .nil) (.node (o242_5 P) (.node (o370_8 P) .nil .nil) .nil)))) (.node (o26_2 P) (.node (o42_2 P) (.node (o74_4 P) (.node (o138_4 P) (.node (o266_5 P) .nil .nil) (.node (o394_8 P) .nil .nil)) (.node (o202_4 P) (.node (o330_6 P) .nil .nil) .nil)) (.node (o106_4 P) (.node (o170_4 P) (.node (o298_6 P) .nil .nil) (.node (o426_8 P) .nil .nil)) (.node (o234_5 P) (.node (o362_8 P) .nil .nil) .nil))) (.node (o58_2 P) (.node (o90_4 P) (.node (o154_4 P) (.node (o282_5 P) .nil .nil) (.node (o410_8 P) .nil .nil)) (.node (o218_4 P) (.node (o346_6 P) .nil .nil) .nil)) (.node (o122_4 P) (.node (o186_4 P) (.node (o314_6 P) .nil .nil) .nil) (.node (o250_5 P) (.node (o378_8 P) .nil .nil) .nil))))) (.node (o14_a P) (.node (o22_2 P) (.node (o38_2 P) (.node (o70_4 P) (.node (o134_4 P) (.node (o262_5 P) .nil .nil) (.node (o390_8 P) .nil .nil)) (.node (o198_4 P) (.node (o326_6 P) .nil .nil) .nil)) (.node (o102_4 P) (.node (o166_4 P) (.node (o294_6 P) .nil .nil) (.node (o422_8 P) .nil .nil)) (.node (o230_5 P) (.node (o358_8 P) .nil .nil) .nil))) (.node (o54_2 P) (.node (o86_4 P) (.node (o150_4 P) (.node (o278_5 P) .nil .nil) (.node (o406_8 P) .nil .nil)) (.node (o214_4 P) (.node (o342_6 P) .nil .nil) .nil)) (.node (o118_4 P) (.node (o182_4 P) (.node (o310_6 P) .nil .nil) .nil) (.node (o246_5 P) (.node (o374_8 P) .nil .nil) .nil)))) (.node (o30_2 P) (.node (o46_2 P) (.node (o78_4 P) (.node (o142_4 P) (.node (o270_5 P) .nil .nil) (.node (o398_8 P) .nil .nil)) (.node (o206_4 P) (.node (o334_6 P) .nil .nil) .nil)) (.node (o110_4 P) (.node (o174_4 P) (.node (o302_6 P) .nil .nil) .nil) (.node (o238_5 P) (.node (o366_8 P) .nil .nil) .nil))) (.node (o62_2 P) (.node (o94_4 P) (.node (o158_4 P) (.node (o286_6 P) .nil .nil) (.node (o414_8 P) .nil .nil)) (.node (o222_6 P) (.node (o350_8 P) .nil .nil) .nil)) (.node (o126_4 P) (.node (o190_4 P) (.node (o318_6 P) .nil .nil) .nil) (.node (o254_5 P) (.node (o382_8 P) .nil .nil) .nil))))))))
noncomputable def C8 (P : Params) (os : OsState) : SharedT := ⟨T8 P, nat_lit 429, (boot_heap P).life, #[], boot_drawn, nat_lit 744, os⟩
abbrev pos8 : Pos := { line := 276, col := 0, endLine := 276, endCol := 8 }
noncomputable def o3_13 : Params → Obj := fun P => { cls := Value.type "dict", data := Data.dict #[{ hash := PyData.keyHash P (Str.ofString "__name__"), key := Value.str (Str.ofString "__name__") 165, val := Value.str (Str.ofString "law_yi0046_01") 742 }, { hash := PyData.keyHash P (Str.ofString "__doc__"), key := Value.str (Str.ofString "__doc__") 166, val := Value.none }, { hash := PyData.keyHash P (Str.ofString "__package__"), key := Value.str (Str.ofString "__package__") 167, val := Value.none }, { hash := PyData.keyHash P (Str.ofString "__loader__"), key := Value.str (Str.ofString "__loader__") 168, val := Value.builtin "__main__.__loader__#opaque" }, { hash := PyData.keyHash P (Str.ofString "__spec__"), key := Value.str (Str.ofString "__spec__") 169, val := Value.none }, { hash := PyData.keyHash P (Str.ofString "__annotations__"), key := Value.str (Str.ofString "__annotations__") 170, val := Value.ref 6 }, { hash := PyData.keyHash P (Str.ofString "__builtins__"), key := Value.str (Str.ofString "__builtins__") 171, val := Value.ref 4 }, { hash := PyData.keyHash P (Str.ofString "__file__"), key := Value.str (Str.ofString "__file__") 173, val := Value.str (Str.ofString "/claim/cut.py") 172 }, { hash := PyData.keyHash P (Str.ofString "__cached__"), key := Value.str (Str.ofString "__cached__") 174, val := Value.none }, { hash := PyData.keyHash P (Str.ofString "_wall"), key := Value.str (Str.ofString "_wall") 193, val := Value.ref 21 }, { hash := PyData.keyHash P (Str.ofString "GenericPolynomialRing"), key := Value.str (Str.ofString "GenericPolynomialRing") 248, val := Value.ref 59 }, { hash := PyData.keyHash P (Str.ofString "GenericPolynomial"), key := Value.str (Str.ofString "GenericPolynomial") 447, val := Value.ref 222 }, { hash := PyData.keyHash P (Str.ofString "PolynomialRing"), key := Value.str (Str.ofString "PolynomialRing") 533, val := Value.ref 282 }, { hash := PyData.keyHash P (Str.ofString "Polynomial"), key := Value.str (Str.ofString "Polynomial") 616, val := Value.ref 350 }, { hash := PyData.keyHash P (Str.ofString "PolynomialNTT"), key := Value.str (Str.ofString "PolynomialNTT") 741, val := Value.ref 426 }, { hash := PyData.keyHash P (Str.ofString "_law_state"), key := Value.str (Str.ofString "_law_state") 749, val := Value.ref 433 }, { hash := PyData.keyHash P (Str.ofString "_law_take"), key := Value.str (Str.ofString "_law_take") 761, val := Value.ref 440 }, { hash := PyData.keyHash P (Str.ofString "_law_root"), key := Value.str (Str.ofString "_law_root") 770, val := Value.ref 447 }, { hash := PyData.keyHash P (Str.ofString "_law_transform"), key := Value.str (Str.ofString "_law_transform") 781, val := Value.ref 454 }, { hash := PyData.keyHash P (Str.ofString "law"), key := Value.str (Str.ofString "law") 787, val := Value.ref 459 }] 20 }
noncomputable def o12_13 : Params → Obj := fun P => { cls := Value.none, data := Data.fields #[Value.int 1 0, Value.int 0 0, Value.ref 20, Value.int 5 0, Value.int 0 0, Value.ref 27, Value.int 23 0, Value.int 0 0, Value.ref 69, Value.int 152 0, Value.int 0 0, Value.ref 232, Value.int 183 0, Value.int 0 0, Value.ref 290, Value.int 209 0, Value.int 0 0, Value.ref 358, Value.int 277 0, Value.int 0 0, Value.ref 432, Value.int 282 0, Value.int 0 0, Value.ref 439, Value.int 293 0, Value.int 0 0, Value.ref 446, Value.int 299 0, Value.int 0 0, Value.ref 453, Value.int 304 0, Value.int 0 0, Value.ref 458] }
noncomputable def o429_13 : Params → Obj := fun P => { cls := Value.type "tuple", data := Data.seq #[] }
noncomputable def o430_13 : Params → Obj := fun P => { cls := Value.none, data := Data.fields #[] }
noncomputable def o431_13 : Params → Obj := fun P => { cls := Value.none, data := Data.func { name := Str.ofString "_law_state", qualname := Str.ofString "_law_state", params := P_9, body := FuncBody.stmts B_9, scope := S_9, globals := 0, closure := [], defaults := Value.none, kwdefaults := Value.none } }
noncomputable def o432_13 : Params → Obj := fun P => { cls := Value.type "code", data := Data.fields #[Value.str (Str.ofString "_law_state") 744, Value.str (Str.ofString "_law_state") 745, Value.str (Str.ofString "/claim/cut.py") 746, Value.int 277 0, Value.int 1 0, Value.int 0 0, Value.int 0 0, Value.int 3 0, Value.ref 429, Value.bool true, Value.int 181 0, Value.ref 430, Value.none, Value.none, Value.none, Value.ref 431, Value.int 747 0, Value.int 277 0, Value.str (Str.ofString "/claim/cut.py") 748] }
noncomputable def o433_13 : Params → Obj := fun P => { cls := Value.type "function", data := Data.func { name := Str.ofString "_law_state", qualname := Str.ofString "_law_state", params := P_9, body := FuncBody.stmts B_9, scope := S_9, globals := 3, closure := [], defaults := Value.none, kwdefaults := Value.none, pyModule := Value.str (Str.ofString "law_yi0046_01") 742, code := Value.ref 432 } }
noncomputable def o434_13 : Params → Obj := fun P => { cls := Value.type "tuple", data := Data.seq #[] }
noncomputable def o435_13 : Params → Obj := fun P => { cls := Value.none, data := Data.fields #[] }
noncomputable def o436_13 : Params → Obj := fun P => { cls := Value.type "tuple", data := Data.seq #[Value.str (Str.ofString "state") 753, Value.str (Str.ofString "most") 754, Value.str (Str.ofString "cells") 755, Value.str (Str.ofString "at") 756, Value.str (Str.ofString "cell") 757, Value.str (Str.ofString "mixed") 758] }
noncomputable def o437_13 : Params → Obj := fun P => { cls := Value.type "tuple", data := Data.seq #[] }
noncomputable def o438_13 : Params → Obj := fun P => { cls := Value.none, data := Data.func { name := Str.ofString "_law_take", qualname := Str.ofString "_law_take", params := P_10, body := FuncBody.stmts B_10, scope := S_10, globals := 0, closure := [], defaults := Value.none, kwdefaults := Value.none } }
noncomputable def o439_13 : Params → Obj := fun P => { cls := Value.type "code", data := Data.fields #[Value.str (Str.ofString "_law_take") 750, Value.str (Str.ofString "_law_take") 751, Value.str (Str.ofString "/claim/cut.py") 752, Value.int 282 0, Value.int 2 0, Value.int 0 0, Value.int 0 0, Value.int 3 0, Value.ref 434, Value.bool true, Value.int 181 0, Value.ref 435, Value.none, Value.ref 436, Value.ref 437, Value.ref 438, Value.int 759 0, Value.int 282 0, Value.str (Str.ofString "/claim/cut.py") 760] }
noncomputable def o440_13 : Params → Obj := fun P => { cls := Value.type "function", data := Data.func { name := Str.ofString "_law_take", qualname := Str.ofString "_law_take", params := P_10, body := FuncBody.stmts B_10, scope := S_10, globals := 3, closure := [], defaults := Value.none, kwdefaults := Value.none, pyModule := Value.str (Str.ofString "law_yi0046_01") 742, code := Value.ref 439 } }
noncomputable def o441_13 : Params → Obj := fun P => { cls := Value.type "tuple", data := Data.seq #[] }
noncomputable def o442_13 : Params → Obj := fun P => { cls := Value.none, data := Data.fields #[] }
noncomputable def o443_13 : Params → Obj := fun P => { cls := Value.type "tuple", data := Data.seq #[Value.str (Str.ofString "place") 765, Value.str (Str.ofString "turned") 766, Value.str (Str.ofString "k") 767] }
noncomputable def o444_13 : Params → Obj := fun P => { cls := Value.type "tuple", data := Data.seq #[] }
noncomputable def o445_13 : Params → Obj := fun P => { cls := Value.none, data := Data.func { name := Str.ofString "_law_root", qualname := Str.ofString "_law_root", params := P_11, body := FuncBody.stmts B_11, scope := S_11, globals := 0, closure := [], defaults := Value.none, kwdefaults := Value.none } }
noncomputable def o446_13 : Params → Obj := fun P => { cls := Value.type "code", data := Data.fields #[Value.str (Str.ofString "_law_root") 762, Value.str (Str.ofString "_law_root") 763, Value.str (Str.ofString "/claim/cut.py") 764, Value.int 293 0, Value.int 1 0, Value.int 0 0, Value.int 0 0, Value.int 3 0, Value.ref 441, Value.bool true, Value.int 181 0, Value.ref 442, Value.none, Value.ref 443, Value.ref 444, Value.ref 445, Value.int 768 0, Value.int 293 0, Value.str (Str.ofString "/claim/cut.py") 769] }
noncomputable def o447_13 : Params → Obj := fun P => { cls := Value.type "function", data := Data.func { name := Str.ofString "_law_root", qualname := Str.ofString "_law_root", params := P_11, body := FuncBody.stmts B_11, scope := S_11, globals := 3, closure := [], defaults := Value.none, kwdefaults := Value.none, pyModule := Value.str (Str.ofString "law_yi0046_01") 742, code := Value.ref 446 } }
noncomputable def o448_13 : Params → Obj := fun P => { cls := Value.type "tuple", data := Data.seq #[] }
noncomputable def o449_13 : Params → Obj := fun P => { cls := Value.none, data := Data.fields #[] }
noncomputable def o450_13 : Params → Obj := fun P => { cls := Value.type "tuple", data := Data.seq #[Value.str (Str.ofString "roots") 774, Value.str (Str.ofString "degree") 775, Value.str (Str.ofString "number") 776, Value.str (Str.ofString "row") 777, Value.str (Str.ofString "place") 778] }
noncomputable def o451_13 : Params → Obj := fun P => { cls := Value.type "tuple", data := Data.seq #[] }
noncomputable def o452_13 : Params → Obj := fun P => { cls := Value.none, data := Data.func { name := Str.ofString "_law_transform", qualname := Str.ofString "_law_transform", params := P_12, body := FuncBody.stmts B_12, scope := S_12, globals := 0, closure := [], defaults := Value.none, kwdefaults := Value.none } }
noncomputable def o453_13 : Params → Obj := fun P => { cls := Value.type "code", data := Data.fields #[Value.str (Str.ofString "_law_transform") 771, Value.str (Str.ofString "_law_transform") 772, Value.str (Str.ofString "/claim/cut.py") 773, Value.int 299 0, Value.int 3 0, Value.int 0 0, Value.int 0 0, Value.int 3 0, Value.ref 448, Value.bool true, Value.int 181 0, Value.ref 449, Value.none, Value.ref 450, Value.ref 451, Value.ref 452, Value.int 779 0, Value.int 299 0, Value.str (Str.ofString "/claim/cut.py") 780] }
noncomputable def o454_13 : Params → Obj := fun P => { cls := Value.type "function", data := Data.func { name := Str.ofString "_law_transform", qualname := Str.ofString "_law_transform", params := P_12, body := FuncBody.stmts B_12, scope := S_12, globals := 3, closure := [], defaults := Value.none, kwdefaults := Value.none, pyModule := Value.str (Str.ofString "law_yi0046_01") 742, code := Value.ref 453 } }
noncomputable def o455_13 : Params → Obj := fun P => { cls := Value.type "tuple", data := Data.seq #[] }
noncomputable def o456_13 : Params → Obj := fun P => { cls := Value.none, data := Data.fields #[] }
noncomputable def o457_13 : Params → Obj := fun P => { cls := Value.none, data := Data.func { name := Str.ofString "law", qualname := Str.ofString "law", params := P_13, body := FuncBody.stmts B_13, scope := S_13, globals := 0, closure := [], defaults := Value.none, kwdefaults := Value.none } }
noncomputable def o458_13 : Params → Obj := fun P => { cls := Value.type "code", data := Data.fields #[Value.str (Str.ofString "law") 782, Value.str (Str.ofString "law") 783, Value.str (Str.ofString "/claim/cut.py") 784, Value.int 304 0, Value.int 1 0, Value.int 0 0, Value.int 0 0, Value.int 3 0, Value.ref 455, Value.bool true, Value.int 181 0, Value.ref 456, Value.none, Value.none, Value.none, Value.ref 457, Value.int 785 0, Value.int 304 0, Value.str (Str.ofString "/claim/cut.py") 786] }
noncomputable def o459_13 : Params → Obj := fun P => { cls := Value.type "function", data := Data.func { name := Str.ofString "law", qualname := Str.ofString "law", params := P_13, body := FuncBody.stmts B_13, scope := S_13, globals := 3, closure := [], defaults := Value.none, kwdefaults := Value.none, pyModule := Value.str (Str.ofString "law_yi0046_01") 742, code := Value.ref 458 } }
noncomputable def T13 : Params → BT := fun P => (.node (o0_a P) (.node (o1_a P) (.node (o3_13 P) (.node (o7_a P) (.node (o15_2 P) (.node (o31_2 P) (.node (o63_2 P) (.node (o127_4 P) (.node (o255_5 P) .nil .nil) (.node (o383_8 P) .nil .nil)) (.node (o191_4 P) (.node (o319_6 P) .nil .nil) (.node (o447_13 P) .nil .nil))) (.node (o95_4 P) (.node (o159_4 P) (.node (o287_6 P) .nil .nil) (.node (o415_8 P) .nil .nil)) (.node (o223_4 P) (.node (o351_6 P) .nil .nil) .nil))) (.node (o47_2 P) (.node (o79_4 P) (.node (o143_4 P) (.node (o271_5 P) .nil .nil) (.node (o399_8 P) .nil .nil)) (.node (o207_4 P) (.node (o335_6 P) .nil .nil) .nil)) (.node (o111_4 P) (.node (o175_4 P) (.node (o303_6 P) .nil .nil) (.node (o431_13 P) .nil .nil)) (.node (o239_5 P) (.node (o367_8 P) .nil .nil) .nil)))) (.node (o23_2 P) (.node (o39_2 P) (.node (o71_4 P) (.node (o135_4 P) (.node (o263_5 P) .nil .nil) (.node (o391_8 P) .nil .nil)) (.node (o199_4 P) (.node (o327_6 P) .nil .nil) (.node (o455_13 P) .nil .nil))) (.node (o103_4 P) (.node (o167_4 P) (.node (o295_6 P) .nil .nil) (.node (o423_8 P) .nil .nil)) (.node (o231_5 P) (.node (o359_8 P) .nil .nil) .nil))) (.node (o55_2 P) (.node (o87_4 P) (.node (o151_4 P) (.node (o279_5 P) .nil .nil) (.node (o407_8 P) .nil .nil)) (.node (o215_4 P) (.node (o343_6 P) .nil .nil) .nil)) (.node (o119_4 P) (.node (o183_4 P) (.node (o311_6 P) .nil .nil) (.node (o439_13 P) .nil .nil)) (.node (o247_5 P) (.node (o375_8 P) .nil .nil) .nil))))) (.node (o11_a P) (.node (o19_2 P) (.node (o35_2 P) (.node (o67_4 P) (.node (o131_4 P) (.node (o259_5 P) .nil .nil) (.node (o387_8 P) .nil .nil)) (.node (o195_4 P) (.node (o323_6 P) .nil .nil) (.node (o451_13 P) .nil .nil))) (.node (o99_4 P) (.node (o163_4 P) (.node (o291_6 P) .nil .nil) (.node (o419_8 P) .nil .nil)) (.node (o227_5 P) (.node (o355_8 P) .nil .nil) .nil))) (.node (o51_2 P) (.node (o83_4 P) (.node (o147_4 P) (.node (o275_5 P) .nil .nil) (.node (o403_8 P) .nil .nil)) (.node (o211_4 P) (.node (o339_6 P) .nil .nil) .nil)) (.node (o115_4 P) (.node (o179_4 P) (.node (o307_6 P) .nil .nil) (.node (o435_13 P) .nil .nil)) (.node (o243_5 P) (.node (o371_8 P) .nil .nil) .nil)))) (.node (o27_2 P) (.node (o43_2 P) (.node (o75_4 P) (.node (o139_4 P) (.node (o267_5 P) .nil .nil) (.node (o395_8 P) .nil .nil)) (.node (o203_4 P) (.node (o331_6 P) .nil .nil) (.node (o459_13 P) .nil .nil))) (.node (o107_4 P) (.node (o171_4 P) (.node (o299_6 P) .nil .nil) (.node (o427_8 P) .nil .nil)) (.node (o235_5 P) (.node (o363_8 P) .nil .nil) .nil))) (.node (o59_5 P) (.node (o91_4 P) (.node (o155_4 P) (.node (o283_5 P) .nil .nil) (.node (o411_8 P) .nil .nil)) (.node (o219_4 P) (.node (o347_6 P) .nil .nil) .nil)) (.node (o123_4 P) (.node (o187_4 P) (.node (o315_6 P) .nil .nil) (.node (o443_13 P) .nil .nil)) (.node (o251_5 P) (.node (o379_8 P) .nil .nil) .nil)))))) (.node (o5_a P) (.node (o9_a P) (.node (o17_2 P) (.node (o33_2 P) (.node (o65_4 P) (.node (o129_4 P) (.node (o257_5 P) .nil .nil) (.node (o385_8 P) .nil .nil)) (.node (o193_4 P) (.node (o321_6 P) .nil .nil) (.node (o449_13 P) .nil .nil))) (.node (o97_4 P) (.node (o161_4 P) (.node (o289_6 P) .nil .nil) (.node (o417_8 P) .nil .nil)) (.node (o225_4 P) (.node (o353_8 P) .nil .nil) .nil))) (.node (o49_2 P) (.node (o81_4 P) (.node (o145_4 P) (.node (o273_5 P) .nil .nil) (.node (o401_8 P) .nil .nil)) (.node (o209_4 P) (.node (o337_6 P) .nil .nil) .nil)) (.node (o113_4 P) (.node (o177_4 P) (.node (o305_6 P) .nil .nil) (.node (o433_13 P) .nil .nil)) (.node (o241_5 P) (.node (o369_8 P) .nil .nil) .nil)))) (.node (o25_2 P) (.node (o41_2 P) (.node (o73_4 P) (.node (o137_4 P) (.node (o265_5 P) .nil .nil) (.node (o393_8 P) .nil .nil)) (.node (o201_4 P) (.node (o329_6 P) .nil .nil) (.node (o457_13 P) .nil .nil))) (.node (o105_4 P) (.node (o169_4 P) (.node (o297_6 P) .nil .nil) (.node (o425_8 P) .nil .nil)) (.node (o233_5 P) (.node (o361_8 P) .nil .nil) .nil))) (.node (o57_2 P) (.node (o89_4 P) (.node (o153_4 P) (.node (o281_5 P) .nil .nil) (.node (o409_8 P) .nil .nil)) (.node (o217_4 P) (.node (o345_6 P) .nil .nil) .nil)) (.node (o121_4 P) (.node (o185_4 P) (.node (o313_6 P) .nil .nil) (.node (o441_13 P) .nil .nil)) (.node (o249_5 P) (.node (o377_8 P) .nil .nil) .nil))))) (.node (o13_a P) (.node (o21_2 P) (.node (o37_2 P) (.node (o69_4 P) (.node (o133_4 P) (.node (o261_5 P) .nil .nil) (.node (o389_8 P) .nil .nil)) (.node (o197_4 P) (.node (o325_6 P) .nil .nil) (.node (o453_13 P) .nil .nil))) (.node (o101_4 P) (.node (o165_4 P) (.node (o293_6 P) .nil .nil) (.node (o421_8 P) .nil .nil)) (.node (o229_5 P) (.node (o357_8 P) .nil .nil) .nil))) (.node (o53_2 P) (.node (o85_4 P) (.node (o149_4 P) (.node (o277_5 P) .nil .nil) (.node (o405_8 P) .nil .nil)) (.node (o213_4 P) (.node (o341_6 P) .nil .nil) .nil)) (.node (o117_4 P) (.node (o181_4 P) (.node (o309_6 P) .nil .nil) (.node (o437_13 P) .nil .nil)) (.node (o245_5 P) (.node (o373_8 P) .nil .nil) .nil)))) (.node (o29_2 P) (.node (o45_2 P) (.node (o77_4 P) (.node (o141_4 P) (.node (o269_5 P) .nil .nil) (.node (o397_8 P) .nil .nil)) (.node (o205_4 P) (.node (o333_6 P) .nil .nil) .nil)) (.node (o109_4 P) (.node (o173_4 P) (.node (o301_6 P) .nil .nil) (.node (o429_13 P) .nil .nil)) (.node (o237_5 P) (.node (o365_8 P) .nil .nil) .nil))) (.node (o61_2 P) (.node (o93_4 P) (.node (o157_4 P) (.node (o285_6 P) .nil .nil) (.node (o413_8 P) .nil .nil)) (.node (o221_4 P) (.node (o349_6 P) .nil .nil) .nil)) (.node (o125_4 P) (.node (o189_4 P) (.node (o317_6 P) .nil .nil) (.node (o445_13 P) .nil .nil)) (.node (o253_5 P) (.node (o381_8 P) .nil .nil) .nil))))))) (.node (o2_a P) (.node (o4_a P) (.node (o8_a P) (.node (o16_2 P) (.node (o32_2 P) (.node (o64_4 P) (.node (o128_4 P) (.node (o256_5 P) .nil .nil) (.node (o384_8 P) .nil .nil)) (.node (o192_4 P) (.node (o320_6 P) .nil .nil) (.node (o448_13 P) .nil .nil))) (.node (o96_4 P) (.node (o160_4 P) (.node (o288_6 P) .nil .nil) (.node (o416_8 P) .nil .nil)) (.node (o224_4 P) (.node (o352_6 P) .nil .nil) .nil))) (.node (o48_2 P) (.node (o80_4 P) (.node (o144_4 P) (.node (o272_5 P) .nil .nil) (.node (o400_8 P) .nil .nil)) (.node (o208_4 P) (.node (o336_6 P) .nil .nil) .nil)) (.node (o112_4 P) (.node (o176_4 P) (.node (o304_6 P) .nil .nil) (.node (o432_13 P) .nil .nil)) (.node (o240_5 P) (.node (o368_8 P) .nil .nil) .nil)))) (.node (o24_2 P) (.node (o40_2 P) (.node (o72_4 P) (.node (o136_4 P) (.node (o264_5 P) .nil .nil) (.node (o392_8 P) .nil .nil)) (.node (o200_4 P) (.node (o328_6 P) .nil .nil) (.node (o456_13 P) .nil .nil))) (.node (o104_4 P) (.node (o168_4 P) (.node (o296_6 P) .nil .nil) (.node (o424_8 P) .nil .nil)) (.node (o232_5 P) (.node (o360_8 P) .nil .nil) .nil))) (.node (o56_2 P) (.node (o88_4 P) (.node (o152_4 P) (.node (o280_5 P) .nil .nil) (.node (o408_8 P) .nil .nil)) (.node (o216_4 P) (.node (o344_6 P) .nil .nil) .nil)) (.node (o120_4 P) (.node (o184_4 P) (.node (o312_6 P) .nil .nil) (.node (o440_13 P) .nil .nil)) (.node (o248_5 P) (.node (o376_8 P) .nil .nil) .nil))))) (.node (o12_13 P) (.node (o20_2 P) (.node (o36_2 P) (.node (o68_4 P) (.node (o132_4 P) (.node (o260_5 P) .nil .nil) (.node (o388_8 P) .nil .nil)) (.node (o196_4 P) (.node (o324_6 P) .nil .nil) (.node (o452_13 P) .nil .nil))) (.node (o100_4 P) (.node (o164_4 P) (.node (o292_6 P) .nil .nil) (.node (o420_8 P) .nil .nil)) (.node (o228_5 P) (.node (o356_8 P) .nil .nil) .nil))) (.node (o52_2 P) (.node (o84_4 P) (.node (o148_4 P) (.node (o276_5 P) .nil .nil) (.node (o404_8 P) .nil .nil)) (.node (o212_4 P) (.node (o340_6 P) .nil .nil) .nil)) (.node (o116_4 P) (.node (o180_4 P) (.node (o308_6 P) .nil .nil) (.node (o436_13 P) .nil .nil)) (.node (o244_5 P) (.node (o372_8 P) .nil .nil) .nil)))) (.node (o28_2 P) (.node (o44_2 P) (.node (o76_4 P) (.node (o140_4 P) (.node (o268_5 P) .nil .nil) (.node (o396_8 P) .nil .nil)) (.node (o204_4 P) (.node (o332_6 P) .nil .nil) .nil)) (.node (o108_4 P) (.node (o172_4 P) (.node (o300_6 P) .nil .nil) (.node (o428_8 P) .nil .nil)) (.node (o236_5 P) (.node (o364_8 P) .nil .nil) .nil))) (.node (o60_2 P) (.node (o92_4 P) (.node (o156_4 P) (.node (o284_5 P) .nil .nil) (.node (o412_8 P) .nil .nil)) (.node (o220_4 P) (.node (o348_6 P) .nil .nil) .nil)) (.node (o124_4 P) (.node (o188_4 P) (.node (o316_6 P) .nil .nil) (.node (o444_13 P) .nil .nil)) (.node (o252_5 P) (.node (o380_8 P) .nil .nil) .nil)))))) (.node (o6_a P) (.node (o10_a P) (.node (o18_2 P) (.node (o34_2 P) (.node (o66_4 P) (.node (o130_4 P) (.node (o258_5 P) .nil .nil) (.node (o386_8 P) .nil .nil)) (.node (o194_4 P) (.node (o322_6 P) .nil .nil) (.node (o450_13 P) .nil .nil))) (.node (o98_4 P) (.node (o162_4 P) (.node (o290_6 P) .nil .nil) (.node (o418_8 P) .nil .nil)) (.node (o226_4 P) (.node (o354_8 P) .nil .nil) .nil))) (.node (o50_2 P) (.node (o82_4 P) (.node (o146_4 P) (.node (o274_5 P) .nil .nil) (.node (o402_8 P) .nil .nil)) (.node (o210_4 P) (.node (o338_6 P) .nil .nil) .nil)) (.node (o114_4 P) (.node (o178_4 P) (.node (o306_6 P) .nil .nil) (.node (o434_13 P) .nil .nil)) (.node (o242_5 P) (.node (o370_8 P) .nil .nil) .nil)))) (.node (o26_2 P) (.node (o42_2 P) (.node (o74_4 P) (.node (o138_4 P) (.node (o266_5 P) .nil .nil) (.node (o394_8 P) .nil .nil)) (.node (o202_4 P) (.node (o330_6 P) .nil .nil) (.node (o458_13 P) .nil .nil))) (.node (o106_4 P) (.node (o170_4 P) (.node (o298_6 P) .nil .nil) (.node (o426_8 P) .nil .nil)) (.node (o234_5 P) (.node (o362_8 P) .nil .nil) .nil))) (.node (o58_2 P) (.node (o90_4 P) (.node (o154_4 P) (.node (o282_5 P) .nil .nil) (.node (o410_8 P) .nil .nil)) (.node (o218_4 P) (.node (o346_6 P) .nil .nil) .nil)) (.node (o122_4 P) (.node (o186_4 P) (.node (o314_6 P) .nil .nil) (.node (o442_13 P) .nil .nil)) (.node (o250_5 P) (.node (o378_8 P) .nil .nil) .nil))))) (.node (o14_a P) (.node (o22_2 P) (.node (o38_2 P) (.node (o70_4 P) (.node (o134_4 P) (.node (o262_5 P) .nil .nil) (.node (o390_8 P) .nil .nil)) (.node (o198_4 P) (.node (o326_6 P) .nil .nil) (.node (o454_13 P) .nil .nil))) (.node (o102_4 P) (.node (o166_4 P) (.node (o294_6 P) .nil .nil) (.node (o422_8 P) .nil .nil)) (.node (o230_5 P) (.node (o358_8 P) .nil .nil) .nil))) (.node (o54_2 P) (.node (o86_4 P) (.node (o150_4 P) (.node (o278_5 P) .nil .nil) (.node (o406_8 P) .nil .nil)) (.node (o214_4 P) (.node (o342_6 P) .nil .nil) .nil)) (.node (o118_4 P) (.node (o182_4 P) (.node (o310_6 P) .nil .nil) (.node (o438_13 P) .nil .nil)) (.node (o246_5 P) (.node (o374_8 P) .nil .nil) .nil)))) (.node (o30_2 P) (.node (o46_2 P) (.node (o78_4 P) (.node (o142_4 P) (.node (o270_5 P) .nil .nil) (.node (o398_8 P) .nil .nil)) (.node (o206_4 P) (.node (o334_6 P) .nil .nil) .nil)) (.node (o110_4 P) (.node (o174_4 P) (.node (o302_6 P) .nil .nil) (.node (o430_13 P) .nil .nil)) (.node (o238_5 P) (.node (o366_8 P) .nil .nil) .nil))) (.node (o62_2 P) (.node (o94_4 P) (.node (o158_4 P) (.node (o286_6 P) .nil .nil) (.node (o414_8 P) .nil .nil)) (.node (o222_6 P) (.node (o350_8 P) .nil .nil) .nil)) (.node (o126_4 P) (.node (o190_4 P) (.node (o318_6 P) .nil .nil) (.node (o446_13 P) .nil .nil)) (.node (o254_5 P) (.node (o382_8 P) .nil .nil) .nil))))))))
noncomputable def C13 (P : Params) (os : OsState) : SharedT := ⟨T13 P, nat_lit 460, (boot_heap P).life, #[], boot_drawn, nat_lit 788, os⟩
abbrev pos13 : Pos := { line := 304, col := 0, endLine := 318, endCol := 52 }
def topGoT (tb : String → Option Builtin) (p : Program) (w : World) (n₀ : Nat) (ann : Option Value) : Nat → SharedT → Thread → Option (SharedT × Thread)
  | 0, s, t => some (s, t)
  | n + 1, s, t => match through t with
    | true => none
    | false => match stepOk n₀ ann t with
      | false => none
      | true => match stepT (denote tb) p w s t with
        | some (s', t') => topGoT tb p w n₀ ann n s' t'
        | none => none
theorem topGo_of {tb : String → Option Builtin} {p : Program} {w : World} {n₀ : Nat} {ann : Option Value} : ∀ {n : Nat} {s s' : SharedT} {t t' : Thread}, topGoT tb p w n₀ ann n s t = some (s', t') → topGo tb p w n₀ ann n s.abs t = some (s'.abs, t')
  | 0, _, _, _, _, h => by cases h; rfl
  | n + 1, s, s', t, t', h => by
    unfold topGoT at h
    unfold topGo
    cases he : through t with
    | true => rw [he] at h; cases h
    | false =>
      rw [he] at h
      cases hk : stepOk n₀ ann t with
      | false => rw [hk] at h; cases h
      | true =>
        rw [hk] at h
        cases hs : stepT (denote tb) p w s t with
        | none => rw [hs] at h; cases h
        | some r => obtain ⟨s₂, t₂⟩ := r; rw [hs] at h; rw [stepT_spec hs]; exact topGo_of h
theorem opn : ∀ w : World, (fencedOpening treeTable pw w 6370).map (fun s => (s.heap, s.gens, s.drawn, s.toks)) = some (boot_heap w.params, Array.mk [], boot_drawn, boot_toks) :=
  boot_open (by kernel_rfl) (by decide) (fun s => by kernel_rfl)
theorem siz : ∀ w : World, ((boot_heap w.params).isNs mainGlobals && (#[] : Array GenState).size == 0, (boot_heap w.params).objs.size, (boot_heap w.params).nsMap mainGlobals "__annotations__") = (true, 11, some (.ref 6)) := fun w => by kernel_rfl
noncomputable abbrev Xt (s : Shared) : Bool := xlAt q [] s && recOk (RowW.records rw.row.toRowW) s
noncomputable abbrev Hk : Hook := kHook K as asK
noncomputable abbrev L2 : List Stmt := [st_0, st_1, st_2]
noncomputable abbrev L4 : List Stmt := [st_3, st_4]
noncomputable abbrev L5 : List Stmt := [st_5]
noncomputable abbrev L6 : List Stmt := [st_6]
noncomputable abbrev L8 : List Stmt := [st_7, st_8]
noncomputable abbrev L13 : List Stmt := [st_9, st_10, st_11, st_12, st_13]
noncomputable abbrev bE : List Stmt := L2 ++ (L4 ++ (L5 ++ (L6 ++ (L8 ++ (L13 ++ [])))))
noncomputable abbrev envT : Env := { scope := pw.main.scope, locals := mainNs, globals := mainNs, cells := [], code := .ref 13, frame := some 14 }
noncomputable abbrev cE : Code := .body bE envT
abbrev Bq : List Frame := [topFrame ⟨0, 0, 0, 0⟩]
theorem run_pre : ∀ w : World, (fun os => topGoT treeTable pw w 11 (some (.ref 6)) 12 (boot w.params os) (topStub pw)) = fun os => some (Ca w.params os, ⟨denote treeTable cE, cE, posa, Bq⟩) := by intro w; kernel_rfl
theorem run_block : ∀ w : World, (fun os => segRunT treeTable pw w 11 (some (.ref 6)) 1 1 (Ca w.params os) (blockOf bE envT cE posa Bq)) = fun os => some (.next, Ca w.params os, cE, posa) := by intro w; kernel_rfl
/- the library's own quick forms of the semantics (each with its equation); where one is not to be had, the plain one -/
noncomputable def segQ : (String → Option Builtin) → Program → World → Nat → Option Value → Nat → Nat → SharedT → Thread → Option (Flow × SharedT × Code × Pos) := by
  first | exact PySem.W.Fast.tw10110043849684766642 | exact segRunT
theorem segQ_eq : segRunT = segQ := by first | exact PySem.W.Fast.te10110043849684766642 | rfl
noncomputable def tableQ : String → Option Builtin := by
  first | exact PySem.W.Fast.tw14364793385576792824 | exact treeTable
theorem tableQ_eq : treeTable = tableQ := by first | exact PySem.W.Fast.te14364793385576792824 | rfl
noncomputable def execsQ : List Stmt → Env → Sem Flow := by
  first | exact PySem.W.Fast.tw12563942051412417395 | exact execs
theorem execsQ_eq : execs = execsQ := by first | exact PySem.W.Fast.te12563942051412417395 | rfl
noncomputable def seenQ : type_of% @openSeen := by
  first | exact PySem.W.Fast.tw4187177175401517315 | exact openSeen
theorem seenQ_eq : @openSeen = seenQ := by first | exact PySem.W.Fast.te4187177175401517315 | rfl
noncomputable def importedQ : type_of% @importedModules := by
  first | exact PySem.W.Fast.tw5923862056798008813 | exact importedModules
theorem importedQ_eq : importedModules = importedQ := by first | exact PySem.W.Fast.te5923862056798008813 | rfl
noncomputable abbrev threadQ (l : List Stmt) (env : Env) (c : Code) (p : Pos) (B : List Frame) : Thread := ⟨(execsQ l env).wrap doneF deadEnd id id, c, p, B⟩
theorem run_of {p : Program} {w : World} {n₀ : Nat} {ann : Option Value} {b n : Nat} {s s' : SharedT} {l : List Stmt} {env : Env} {c c' : Code} {q q' : Pos} {B : List Frame} {f : Flow}
    (h : segQ tableQ p w n₀ ann b n s (threadQ l env c q B) = some (f, s', c', q')) : segRun treeTable p w n₀ ann b n s.abs (piecesOf l env c q B) = some (f, s'.abs, c', q') := by
  refine segRun_of ?_
  show segRunT treeTable p w n₀ ann b n s ⟨(execs l env).wrap doneF deadEnd id id, c, q, B⟩ = _
  rw [segQ_eq, tableQ_eq, execsQ_eq]
  exact h
theorem run_2 : ∀ w : World, (fun os => segQ tableQ pw w 11 (some (.ref 6)) 1 357 (Ca w.params os) (threadQ L2 envT cE posa Bq)) = fun os => some (.next, C2 w.params os, cE, pos2) := by intro w; kernel_rfl
theorem run_4 : ∀ w : World, (fun os => segQ tableQ pw w 11 (some (.ref 6)) 1 923 (C2 w.params os) (threadQ L4 envT cE pos2 Bq)) = fun os => some (.next, C4 w.params os, cE, pos4) := by intro w; kernel_rfl
theorem run_5 : ∀ w : World, (fun os => segQ tableQ pw w 11 (some (.ref 6)) 1 546 (C4 w.params os) (threadQ L5 envT cE pos4 Bq)) = fun os => some (.next, C5 w.params os, cE, pos5) := by intro w; kernel_rfl
theorem run_6 : ∀ w : World, (fun os => segQ tableQ pw w 11 (some (.ref 6)) 1 472 (C5 w.params os) (threadQ L6 envT cE pos5 Bq)) = fun os => some (.next, C6 w.params os, cE, pos6) := by intro w; kernel_rfl
theorem run_8 : ∀ w : World, (fun os => segQ tableQ pw w 11 (some (.ref 6)) 1 679 (C6 w.params os) (threadQ L8 envT cE pos6 Bq)) = fun os => some (.next, C8 w.params os, cE, pos8) := by intro w; kernel_rfl
theorem run_13 : ∀ w : World, (fun os => segQ tableQ pw w 11 (some (.ref 6)) 1 151 (C8 w.params os) (threadQ L13 envT cE pos8 Bq)) = fun os => some (.next, C13 w.params os, cE, pos13) := by intro w; kernel_rfl
theorem run_fin : ∀ w : World, (fun os => topRunT treeTable pw w 11 (some (.ref 6)) 2 (C13 w.params os) ⟨doneF .next, cE, pos13, Bq⟩) = fun os => some (C13 w.params os) := by intro w; kernel_rfl
noncomputable def H13 : Params → Heap := fun P => ⟨⟨[o0_a P, o1_a P, o2_a P, o3_13 P, o4_a P, o5_a P, o6_a P, o7_a P, o8_a P, o9_a P, o10_a P, o11_a P, o12_13 P, o13_a P, o14_a P, o15_2 P, o16_2 P, o17_2 P, o18_2 P, o19_2 P, o20_2 P, o21_2 P, o22_2 P, o23_2 P, o24_2 P, o25_2 P, o26_2 P, o27_2 P, o28_2 P, o29_2 P, o30_2 P, o31_2 P, o32_2 P, o33_2 P, o34_2 P, o35_2 P, o36_2 P, o37_2 P, o38_2 P, o39_2 P, o40_2 P, o41_2 P, o42_2 P, o43_2 P, o44_2 P, o45_2 P, o46_2 P, o47_2 P, o48_2 P, o49_2 P, o50_2 P, o51_2 P, o52_2 P, o53_2 P, o54_2 P, o55_2 P, o56_2 P, o57_2 P, o58_2 P, o59_5 P, o60_2 P, o61_2 P, o62_2 P, o63_2 P, o64_4 P, o65_4 P, o66_4 P, o67_4 P, o68_4 P, o69_4 P, o70_4 P, o71_4 P, o72_4 P, o73_4 P, o74_4 P, o75_4 P, o76_4 P, o77_4 P, o78_4 P, o79_4 P, o80_4 P, o81_4 P, o82_4 P, o83_4 P, o84_4 P, o85_4 P, o86_4 P, o87_4 P, o88_4 P, o89_4 P, o90_4 P, o91_4 P, o92_4 P, o93_4 P, o94_4 P, o95_4 P, o96_4 P, o97_4 P, o98_4 P, o99_4 P, o100_4 P, o101_4 P, o102_4 P, o103_4 P, o104_4 P, o105_4 P, o106_4 P, o107_4 P, o108_4 P, o109_4 P, o110_4 P, o111_4 P, o112_4 P, o113_4 P, o114_4 P, o115_4 P, o116_4 P, o117_4 P, o118_4 P, o119_4 P, o120_4 P, o121_4 P, o122_4 P, o123_4 P, o124_4 P, o125_4 P, o126_4 P, o127_4 P, o128_4 P, o129_4 P, o130_4 P, o131_4 P, o132_4 P, o133_4 P, o134_4 P, o135_4 P, o136_4 P, o137_4 P, o138_4 P, o139_4 P, o140_4 P, o141_4 P, o142_4 P, o143_4 P, o144_4 P, o145_4 P, o146_4 P, o147_4 P, o148_4 P, o149_4 P, o150_4 P, o151_4 P, o152_4 P, o153_4 P, o154_4 P, o155_4 P, o156_4 P, o157_4 P, o158_4 P, o159_4 P, o160_4 P, o161_4 P, o162_4 P, o163_4 P, o164_4 P, o165_4 P, o166_4 P, o167_4 P, o168_4 P, o169_4 P, o170_4 P, o171_4 P, o172_4 P, o173_4 P, o174_4 P, o175_4 P, o176_4 P, o177_4 P, o178_4 P, o179_4 P, o180_4 P, o181_4 P, o182_4 P, o183_4 P, o184_4 P, o185_4 P, o186_4 P, o187_4 P, o188_4 P, o189_4 P, o190_4 P, o191_4 P, o192_4 P, o193_4 P, o194_4 P, o195_4 P, o196_4 P, o197_4 P, o198_4 P, o199_4 P, o200_4 P, o201_4 P, o202_4 P, o203_4 P, o204_4 P, o205_4 P, o206_4 P, o207_4 P, o208_4 P, o209_4 P, o210_4 P, o211_4 P, o212_4 P, o213_4 P, o214_4 P, o215_4 P, o216_4 P, o217_4 P, o218_4 P, o219_4 P, o220_4 P, o221_4 P, o222_6 P, o223_4 P, o224_4 P, o225_4 P, o226_4 P, o227_5 P, o228_5 P, o229_5 P, o230_5 P, o231_5 P, o232_5 P, o233_5 P, o234_5 P, o235_5 P, o236_5 P, o237_5 P, o238_5 P, o239_5 P, o240_5 P, o241_5 P, o242_5 P, o243_5 P, o244_5 P, o245_5 P, o246_5 P, o247_5 P, o248_5 P, o249_5 P, o250_5 P, o251_5 P, o252_5 P, o253_5 P, o254_5 P, o255_5 P, o256_5 P, o257_5 P, o258_5 P, o259_5 P, o260_5 P, o261_5 P, o262_5 P, o263_5 P, o264_5 P, o265_5 P, o266_5 P, o267_5 P, o268_5 P, o269_5 P, o270_5 P, o271_5 P, o272_5 P, o273_5 P, o274_5 P, o275_5 P, o276_5 P, o277_5 P, o278_5 P, o279_5 P, o280_5 P, o281_5 P, o282_5 P, o283_5 P, o284_5 P, o285_6 P, o286_6 P, o287_6 P, o288_6 P, o289_6 P, o290_6 P, o291_6 P, o292_6 P, o293_6 P, o294_6 P, o295_6 P, o296_6 P, o297_6 P, o298_6 P, o299_6 P, o300_6 P, o301_6 P, o302_6 P, o303_6 P, o304_6 P, o305_6 P, o306_6 P, o307_6 P, o308_6 P, o309_6 P, o310_6 P, o311_6 P, o312_6 P, o313_6 P, o314_6 P, o315_6 P, o316_6 P, o317_6 P, o318_6 P, o319_6 P, o320_6 P, o321_6 P, o322_6 P, o323_6 P, o324_6 P, o325_6 P, o326_6 P, o327_6 P, o328_6 P, o329_6 P, o330_6 P, o331_6 P, o332_6 P, o333_6 P, o334_6 P, o335_6 P, o336_6 P, o337_6 P, o338_6 P, o339_6 P, o340_6 P, o341_6 P, o342_6 P, o343_6 P, o344_6 P, o345_6 P, o346_6 P, o347_6 P, o348_6 P, o349_6 P, o350_8 P, o351_6 P, o352_6 P, o353_8 P, o354_8 P, o355_8 P, o356_8 P, o357_8 P, o358_8 P, o359_8 P, o360_8 P, o361_8 P, o362_8 P, o363_8 P, o364_8 P, o365_8 P, o366_8 P, o367_8 P, o368_8 P, o369_8 P, o370_8 P, o371_8 P, o372_8 P, o373_8 P, o374_8 P, o375_8 P, o376_8 P, o377_8 P, o378_8 P, o379_8 P, o380_8 P, o381_8 P, o382_8 P, o383_8 P, o384_8 P, o385_8 P, o386_8 P, o387_8 P, o388_8 P, o389_8 P, o390_8 P, o391_8 P, o392_8 P, o393_8 P, o394_8 P, o395_8 P, o396_8 P, o397_8 P, o398_8 P, o399_8 P, o400_8 P, o401_8 P, o402_8 P, o403_8 P, o404_8 P, o405_8 P, o406_8 P, o407_8 P, o408_8 P, o409_8 P, o410_8 P, o411_8 P, o412_8 P, o413_8 P, o414_8 P, o415_8 P, o416_8 P, o417_8 P, o418_8 P, o419_8 P, o420_8 P, o421_8 P, o422_8 P, o423_8 P, o424_8 P, o425_8 P, o426_8 P, o427_8 P, o428_8 P, o429_13 P, o430_13 P, o431_13 P, o432_13 P, o433_13 P, o434_13 P, o435_13 P, o436_13 P, o437_13 P, o438_13 P, o439_13 P, o440_13 P, o441_13 P, o442_13 P, o443_13 P, o444_13 P, o445_13 P, o446_13 P, o447_13 P, o448_13 P, o449_13 P, o450_13 P, o451_13 P, o452_13 P, o453_13 P, o454_13 P, o455_13 P, o456_13 P, o457_13 P, o458_13 P, o459_13 P]⟩, (boot_heap P).life⟩
theorem heap13 : ∀ P : Params, absHeap (T13 P) (nat_lit 460) (boot_heap P).life = H13 P := fun _ => by kernel_rfl
theorem abs13 (P : Params) (os : OsState) : (C13 P os).abs = ⟨H13 P, #[], boot_drawn, nat_lit 788, os⟩ :=
  congrArg (fun h => (⟨h, #[], boot_drawn, nat_lit 788, os⟩ : Shared)) (heap13 P)
theorem run_all (w : World) (os : OsState) : topRun treeTable pw w 11 (some (.ref 6)) (12 + (1 + (357 + (923 + (546 + (472 + (679 + (151 + 2)))))))) ⟨boot_heap w.params, #[], boot_drawn, boot_toks, os⟩ (topStub pw) = some ⟨H13 w.params, #[], boot_drawn, nat_lit 788, os⟩ := by
  have k0 := topRun_of (congrFun (run_fin w) os)
  have k1 := piece_app (run_of (congrFun (run_13 w) os)) (piece_nil k0)
  have k2 := piece_app (run_of (congrFun (run_8 w) os)) k1
  have k3 := piece_app (run_of (congrFun (run_6 w) os)) k2
  have k4 := piece_app (run_of (congrFun (run_5 w) os)) k3
  have k5 := piece_app (run_of (congrFun (run_4 w) os)) k4
  have k6 := piece_app (run_of (congrFun (run_2 w) os)) k5
  have k7 := piece_block (segRun_of (congrFun (run_block w) os)) k6
  have k8 := go_top (topGo_of (congrFun (run_pre w) os)) k7
  rw [boot_abs, abs13] at k8
  exact k8
noncomputable abbrev E13 (w : World) (os : OsState) : Shared := ⟨H13 w.params, #[], boot_drawn, nat_lit 788, os⟩
theorem look1 : ∀ w : World, (fun os => (staticsOk (importedModules pw.main.body) (boot_heap w.params) (H13 w.params) && namesBound pw (H13 w.params) && gensDone (E13 w os) && laidKept (boot_heap w.params) (H13 w.params))) = fun _ => true := by intro w; kernel_rfl
theorem look2 : ∀ w : World, (fun os => seenQ q loose (importedQ pw.main.body) Xt true (E13 w os)) = fun _ => openGood q loose := by intro w; kernel_rfl
def getQ (t : BT) (n : Nat) (a : Addr) : Option Obj := match Nat.blt a n with
  | true => match t.get a with
    | some o => alive o
    | none => alive default
  | false => none
theorem getQ_eq (t : BT) (n : Nat) (life : Life) (a : Addr) : (absHeap t n life).get? a = getQ t n a := by
  unfold getQ
  cases e : Nat.blt a n with
  | false => exact abs_get_none fun lt => by rw [show Nat.blt a n = true from Nat.ble_eq_true_of_le lt] at e; cases e
  | true =>
    have lt : a < n := Nat.le_of_ble_eq_true e
    cases g : t.get a with
    | some o => exact abs_get lt g
    | none =>
      unfold Heap.get?
      rw [absHeap_at, if_pos lt, g]
      show (match some (default : Obj) with | some ⟨_, _, .freed, _⟩ => none | o => o) = alive default
      rfl
theorem look3 : ∀ w : World, as.map (getQ (T13 w.params) (nat_lit 460)) = Hk.val w := by intro w; kernel_rfl
theorem left : LeftO pw q loose Xt Hk.obs Hk.val 6370 := LeftO.of_pieces opn siz run_all (by decide) fun w => by
  funext os
  have a := congrFun (look1 w) os
  have b := congrFun (look2 w) os
  rw [← seenQ_eq, ← importedQ_eq] at b
  have c : Hk.obs (E13 w os) = Hk.val w := by
    rw [← look3 w]
    show as.map (H13 w.params).get? = _
    rw [← heap13]
    exact congrArg as.map (funext fun a => getQ_eq _ _ _ a)
  exact looks_pair a (looks_pair b c)
end Mine
namespace Mine
open PySem PySem.W PyProof.Rows PySem.Spec PySem.Calls
set_option maxRecDepth 100000
set_option maxHeartbeats 4000000
theorem int_pow3 (a : Int) (t : Tok) (b : Int) (u : Tok) (c : Int) (v : Tok) (hb : ¬ b < 0) (hc0 : ¬(c == 0) = true) (hc1 : ¬(c.natAbs == 1) = true) (hc2 : ¬ c < 0) :
    Gives (Builtin.«int.__pow__» ⟨[.int a t, .int b u, .int c v], []⟩) (.int (Builtin.powMod (a % (c.natAbs : Int)).toNat b.natAbs c.natAbs)) :=
  .of_wp fun M A E s Q h => by
    obtain ⟨hp, g, d, tk, os⟩ := s
    wp_walk
    refine ⟨_, rfl, ?_⟩
    rw [if_neg (by rw [decide_eq_false hc2]; simp)]
    exact h
theorem int_pow_inv (t u v : Tok) :
    Gives (Builtin.«int.__pow__» ⟨[.int 128 t, .int (-1) u, .int 3329 v], []⟩) (.int 3303) :=
  .of_wp fun M A E s Q h => by
    obtain ⟨hp, g, d, tk, os⟩ := s
    wp_walk
    refine ⟨_, rfl, ?_⟩
    have e : (if (decide ((3329 : Int) < 0) && (Builtin.powMod ((0 - ((Int.natAbs 3329 : Nat) : Int) / (((128 : Int) % ((Int.natAbs 3329 : Nat) : Int)).toNat : Int) * 1) % ((Int.natAbs 3329 : Nat) : Int)).toNat (-1 : Int).natAbs (Int.natAbs 3329) : Int) != 0) = true then
        (Builtin.powMod ((0 - ((Int.natAbs 3329 : Nat) : Int) / (((128 : Int) % ((Int.natAbs 3329 : Nat) : Int)).toNat : Int) * 1) % ((Int.natAbs 3329 : Nat) : Int)).toNat (-1 : Int).natAbs (Int.natAbs 3329) : Int) - ((Int.natAbs 3329 : Nat) : Int)
      else (Builtin.powMod ((0 - ((Int.natAbs 3329 : Nat) : Int) / (((128 : Int) % ((Int.natAbs 3329 : Nat) : Int)).toNat : Int) * 1) % ((Int.natAbs 3329 : Nat) : Int)).toNat (-1 : Int).natAbs (Int.natAbs 3329) : Int)) = 3303 := by decide +kernel
    rw [e]
    exact h
namespace PW
theorem kind : builtinKind "pow" = none := by decide +kernel
theorem plain : plainId "pow" = true := by decide +kernel
theorem entry : entryFor table "pow" = some Builtin.«pow» := entryFor_of_tree (by kernel_rfl)
theorem args3 (a b c : Value) : argsOk "pow" ⟨[a, b, c], []⟩ := by unfold argsOk; kernel_rfl
theorem bindp (a b c : Value) : Builtin.Builtins.bindParams "pow" ["base", "exp", "mod"] 2 ⟨[a, b, c], []⟩ = pure [some a, some b, some c] := by kernel_rfl
theorem argsI (a b c : Value) : argsOk "int.__pow__" ⟨[a, b, c], []⟩ := by unfold argsOk; kernel_rfl
theorem lk : typeLookup (.type "int") (Str.ofString "__pow__") = pure (some (.builtin "int.__pow__")) := by rw [typeLookup_type, builtinLookup_eq_fast]; kernel_rfl
theorem slot : Slot "int" (Str.ofString "__pow__") "int.__pow__" := by with_unfolding_all exact F.slot_int_pow
end PW
theorem meets_pow3 (a : Int) (t : Tok) (b : Int) (u : Tok) (c : Int) (v : Tok) (r : Int) (g : Gives (Builtin.«int.__pow__» ⟨[.int a t, .int b u, .int c v], []⟩) (.int r)) :
    Meets (Builtin.«pow» ⟨[.int a t, .int b u, .int c v], []⟩) (Made.int r).spec :=
  .of_wp fun prog w A R s h => by
    have f1 := PW.lk
    obtain ⟨hp, gs, d, tk, os⟩ := s
    unfold Builtin.«pow»
    refine wpAny_bind ?_
    rw [PW.bindp]
    refine wpAny_pure ?_
    dsimp only [Option.getD]
    repeat (first
      | ((with_reducible show wpAny _ _ (callSpecial? _ _ _) _ _ _); refine wpAny_callSpecial?_slot (typeIs_int _ _ _) PW.slot (call_meets PW.slot (typeIs_int _ _ _) F.entry_int_pow (PW.argsI _ _ _) g.meets ?_); (show (Made.int r).post _ _); dsimp only [wants, Made.post])
      | wp_step)
    exact ⟨_, rfl, h⟩
section
variable {prog : Program} {w : World} {A : Around} {E : Value → Shared → Prop} {s : Shared} {Q : Value → Shared → Prop} {t u v : Tok}
theorem call_pow3 {a b c : Int} (hb : 0 ≤ b) (hc : 1 < c) (h : Q (.int (Builtin.powMod (a % (c.natAbs : Int)).toNat b.natAbs c.natAbs) s.toks) { s with toks := s.toks + 1 }) :
    wpAny (model prog w) A (call (.builtin "pow") [.int a t, .int b u, .int c v]) Q E s :=
  call_function_meets PW.kind PW.plain PW.entry (PW.args3 _ _ _) (meets_pow3 a t b u c v _ (int_pow3 a t b u c v (by omega) (by simp; omega) (by simp; omega) (by omega))) h
theorem call_pow_inv (h : Q (.int 3303 s.toks) { s with toks := s.toks + 1 }) :
    wpAny (model prog w) A (call (.builtin "pow") [.int 128 t, .int (-1) u, .int 3329 v]) Q E s :=
  call_function_meets PW.kind PW.plain PW.entry (PW.args3 _ _ _) (meets_pow3 _ t _ u _ v _ (int_pow_inv t u v)) h
end
end Mine
namespace Mine
open PySem PySem.W PyProof.Rows PySem.Spec PySem.Calls
structure Hold (P : Prop) : Prop where
  mk :: (out : P)
theorem allLt_mem {d : Addr} {l : List (Addr × Obj)} (h : AllLt d l) : ∀ p ∈ l, @LT.lt Nat _ p.1 d := by
  induction l with
  | nil => intro p hp; cases hp
  | cons x r ih =>
    intro p hp
    rcases List.mem_cons.mp hp with e | hp
    · rw [e]; exact h.1
    · exact ih h.2 p hp
theorem off_app {o1 o2 : List (Addr × Obj)} {l : List Addr} (h1 : OwnOff o1 l) (h2 : OwnOff o2 l) : OwnOff (o1 ++ o2) l := fun p hp b hb => (List.mem_append.mp hp).elim (fun h => h1 p h b hb) fun h => h2 p h b hb
theorem off_sub {o : List (Addr × Obj)} {l l' : List Addr} (h : OwnOff o l) (hs : ∀ b ∈ l', b ∈ l) : OwnOff o l' := fun p hp b hb => h p hp b (hs b hb)
theorem off_lt {o : List (Addr × Obj)} {d : Addr} (h : AllLt d o) : OwnOff o [d] := fun p hp b hb => by
  rw [List.mem_singleton.mp hb]; exact Nat.ne_of_lt (allLt_mem h p hp)
theorem off_cons {o : List (Addr × Obj)} {d : Addr} {l : List Addr} (h : OwnOff o [d]) (h' : OwnOff o l) : OwnOff o (d :: l) := fun p hp b hb => by
  rcases List.mem_cons.mp hb with rfl | hb
  · exact h p hp _ (.head _)
  · exact h' p hp b hb
theorem powMod_lt (b e m : Nat) (hm : 1 < m) : Builtin.powMod b e m < m := by
  unfold Builtin.powMod
  generalize (List.range _).reverse = l
  have h0 : 1 % m < m := Nat.mod_lt _ (by omega)
  generalize 1 % m = p at h0
  induction l generalizing p with
  | nil => exact h0
  | cons i r ih =>
    rw [List.foldl_cons]
    refine ih _ ?_
    split <;> exact Nat.mod_lt _ (by omega)
def pm (a b : Int) : Int := (Builtin.powMod (a % ((3329 : Int).natAbs : Int)).toNat b.natAbs (3329 : Int).natAbs : Int)
section
variable {prog : Program} {w : World} {A : Around} {E : Value → Shared → Prop} {s : Shared} {Q : Value → Shared → Prop} {t u v : Tok}
theorem call_pow3r {a b : Int} (hb : 0 ≤ b) (h : ∀ r : Int, r = pm a b → 0 ≤ r → r < 3329 → Q (.int r s.toks) { s with toks := s.toks + 1 }) :
    wpAny (model prog w) A (call (.builtin "pow") [.int a t, .int b u, .int 3329 v]) Q E s :=
  call_pow3 hb (by decide) (h _ rfl (by exact Int.natCast_nonneg _) (by
    have := powMod_lt (a % ((3329 : Int).natAbs : Int)).toNat b.natAbs (3329 : Int).natAbs (by decide)
    have e : (3329 : Int).natAbs = 3329 := rfl
    rw [e] at this ⊢
    omega))
end
def tcell (r d c : Int) : Int := (c * pm r (d.fdiv 2)).fmod 3329
def trow (rns : List Int) (d c : Int) : Nat → List Int
  | 0 => List.replicate 256 0
  | n + 1 => (trow rns d c n).set (2 * (n : Int) + d.fmod 2).toNat (tcell (rns.getD n 0) d c)
theorem trow_len (rns : List Int) (d c : Int) : ∀ n, (trow rns d c n).length = 256
  | 0 => List.length_replicate
  | n + 1 => by rw [trow, List.length_set]; exact trow_len rns d c n
end Mine
namespace Mine
open PySem PySem.W PyProof.Rows PySem.Spec PySem.Calls
set_option maxRecDepth 100000
set_option maxHeartbeats 0
theorem take_call (w : World) (mean : ExcName → Option Value) (mg mb : Str → Option Value) (dp un : Nat) (gd : Option (List Code)) (cn : Str) (cs : Scope) (a : Addr) (ccd : Value) (cl : List (Str × Addr)) (outer : List Env) (A₀ : Around) (base h₀ : Heap) (L : Addr) (m : Str → Option Value) (s : Shared) (Q E : Value → Shared → Prop)
  (B : Below A₀ base outer h₀) (F : Fr h₀ L s.heap m) (X : (K w.params).In h₀) (st c : Addr) (own : List (Addr × Obj)) (vs : List Value) (ns : List Int) (n k : Nat) (i : Int) (t : Tok) (most : Int) (tm : Tok)
  (N : News h₀ L s.heap ((st, listOf #[.int i t, .ref c] n) :: (c, listOf vs.toArray k) :: own)) (off : OwnOff own [st, c]) (hne : @Ne Nat st c)
  (T : Top q (looseW q loose) mean mg mb h₀) (hk : cs.kind = .function)
  (hi : IntsAre vs ns) (h0 : 0 ≤ i) (hi2 : i < 2 ^ 40) (hpos : 0 < ns.length) (hlen : ns.length < 64) (hnn : ∀ x ∈ ns, 0 ≤ x) (hm0 : 0 < most) (hm1 : most < 2 ^ 20)
  (hd : dp + 1 < recursionLimit) (hu : un + 8 < cLine)
  (ret : ∀ (v : Int) (t' : Tok) (i' : Int) (u' : Tok) (vs' : List Value) (ns' : List Int) (h' : Heap) (tk' : Nat), 0 ≤ v → v < most → 0 ≤ i' → i' ≤ i + 1 → IntsAre vs' ns' → ns'.length = ns.length → (∀ x ∈ ns', 0 ≤ x) →
    Fr h₀ L h' m → News h₀ L h' ((st, listOf #[.int i' u', .ref c] n) :: (c, listOf vs'.toArray k) :: own) → Q (.int v t') { s with heap := h', toks := tk' }) :
  wpAny (model PySem.Challenge.rw_yi0046_01.row.prog w) (ktrTop dp un gd cn cs L a ccd cl outer) (call (.ref (nat_lit 440)) [.ref st, .int most tm]) Q E s := by
  revert X
  k_fill
  intro X
  w_on
  refine wpAny_call ?_
  k_dflt cell_enter
  k_steps
  · refine ret _ _ i t _ (ns.set _ _) _ _ ?_ ?_ h0 (by omega) (ints_set hi _) (List.length_set ..) ?_ (by assumption) (by assumption)
    · exact fmod_lo _ hm0
    · exact fmod_hi _ hm0
    · intro x hx
      rcases List.mem_or_eq_of_mem_set hx with hx | rfl
      · exact hnn x hx
      · refine Int.fdiv_nonneg ?_ (by omega)
        have := ‹(1000000000000000000 : Int) ≤ _›
        omega
  · refine ret _ _ (i + 1) _ _ ns _ _ ?_ ?_ (by omega) (by omega) hi rfl hnn (by assumption) (by assumption)
    · exact fmod_lo _ hm0
    · exact fmod_hi _ hm0
end Mine
namespace Mine
open PySem PySem.W PyProof.Rows PySem.Spec PySem.Calls
set_option maxRecDepth 100000
set_option maxHeartbeats 0
local macro_rules | `(tactic| walk_at "call builtin:pow") => `(tactic| (k_here; (with_reducible show wpAny _ _ (call (Value.builtin "pow") [Value.int _ _, Value.int _ _, Value.int _ _]) _ _ _); (refine call_pow3r ?b ?_; (case b => first | decide | omega)); intro rP eP hP0 hP1))
local macro_rules | `(tactic| walk_at "pyIter ref") => `(tactic| ((with_reducible show wpAny _ _ (pyIter (Value.ref _)) _ _ _); refine Hold.out ?_))
def pl (i : Int) : Nat → Int
  | 0 => i
  | k + 1 => (pl i k).fdiv 2
def tur (i : Int) : Nat → Int
  | 0 => 0
  | k + 1 => 2 * tur i k + (pl i k).fmod 2
theorem tur_lo (i : Int) : ∀ k, 0 ≤ tur i k
  | 0 => Int.le_refl _
  | k + 1 => by have := tur_lo i k; have := fmod_lo (pl i k) (n := 2) (by decide); unfold tur; omega
def rt (i : Int) : Int := pm 17 (2 * tur i 7 + 1)
theorem root_call (w : World) (mean : ExcName → Option Value) (mg mb : Str → Option Value) (dp un : Nat) (gd : Option (List Code)) (cn : Str) (cs : Scope) (a : Addr) (ccd : Value) (cl : List (Str × Addr)) (outer : List Env) (A₀ : Around) (base h₀ : Heap) (L : Addr) (m : Str → Option Value) (s : Shared) (Q E : Value → Shared → Prop)
  (B : Below A₀ base outer h₀) (F : Fr h₀ L s.heap m) (X : (K w.params).In h₀) (own : List (Addr × Obj))
  (N : News h₀ L s.heap own)
  (T : Top q (looseW q loose) mean mg mb h₀) (hk : cs.kind = .function)
  (i : Int) (t : Tok)
  (hd : dp + 1 < recursionLimit) (hu : un + 8 < cLine)
  (ret : ∀ (t' : Tok) (h' : Heap) (tk' : Nat),
    Fr h₀ L h' m → News h₀ L h' own → Q (.int (rt i) t') { s with heap := h', toks := tk' }) :
  wpAny (model PySem.Challenge.rw_yi0046_01.row.prog w) (ktrTop dp un gd cn cs L a ccd cl outer) (call (.ref (nat_lit 447)) [.int i t]) Q E s := by
  revert X
  k_fill
  intro X
  w_on
  refine wpAny_call ?_
  k_dflt cell_enter
  k_steps
  refine ⟨?_⟩
  rename Fr _ _ _ _ => lF'
  rename News _ _ _ _ => lN'
  rename IsRange _ _ _ _ _ _ _ _ => rgX
  with_unfolding_all refine' kst_range (fun _ : (Int × Tok) × (Int × Tok) => own) (fun c => [(Str.ofString "turned", .int c.1.1 c.1.2), (Str.ofString "place", .int c.2.1 c.2.2)]) (fun _ => True) [] (fun pre c => c.1.1 = tur i pre.length ∧ c.2.1 = pl i pre.length) ((0, _), (i, _)) (by rfl) rgX (by decide) (by rfl) lF' lN' trivial ?ka ⟨rfl, rfl⟩ ?kt ?kd
  case ka => kst_all
  case kt =>
    clear lF' lN'
    rintro ⟨⟨t1, k1⟩, ⟨p1, k2⟩⟩ pre k t2 u h tk own2 hk2 hlt off2 _ ⟨e1, e2⟩ F2 N2
    dsimp only [kstB, List.contains_nil] at e1 e2 F2
    simp only [Bool.false_eq_true, if_false] at F2
    subst e1
    subst e2
    k_steps
    refine' kst_end ((_, _), (_, _)) (by assumption) (by assumption) (by kst_in) (by intro p hp; kst_mem) (by rfl) trivial ?ka ?kr ?kp
    case ka => kst_all
    case kr => kst_same
    case kp => rw [List.length_append]; exact ⟨rfl, rfl⟩
  case kd =>
    clear lF' lN'
    rintro ⟨⟨t1, k1⟩, ⟨p1, k2⟩⟩ u h tk _ ⟨e1, e2⟩ F2 N2
    dsimp only [kstB, List.contains_nil] at e1 e2 F2
    simp only [Bool.false_eq_true, if_false] at F2
    rw [show (rangeKs 0 7).length = 7 from rfl] at e1 e2
    subst e1
    subst e2
    have hb := tur_lo i 7
    k_steps
    rename _ = pm _ _ => eP
    subst eP
    exact ret _ _ _ (by assumption) (by assumption)
end Mine
namespace Mine
open PySem PySem.W PyProof.Rows PySem.Spec PySem.Calls
set_option maxRecDepth 100000
set_option maxHeartbeats 2000000
local macro_rules | `(tactic| walk_at "call builtin:pow") => `(tactic| (k_here; (with_reducible show wpAny _ _ (call (Value.builtin "pow") [Value.int _ _, Value.int _ _, Value.int _ _]) _ _ _); (refine call_pow3r ?b ?_; (case b => first | decide | omega)); intro rP eP hP0 hP1))
local macro_rules | `(tactic| walk_at "pyIter ref") => `(tactic| ((with_reducible show wpAny _ _ (pyIter (Value.ref _)) _ _ _); refine Hold.out ?_))
theorem trans_call (w : World) (mean : ExcName → Option Value) (mg mb : Str → Option Value) (dp un : Nat) (gd : Option (List Code)) (cn : Str) (cs : Scope) (a : Addr) (ccd : Value) (cl : List (Str × Addr)) (outer : List Env) (A₀ : Around) (base h₀ : Heap) (L : Addr) (m : Str → Option Value) (s : Shared) (Q E : Value → Shared → Prop)
  (B : Below A₀ base outer h₀) (F : Fr h₀ L s.heap m) (X : (K w.params).In h₀) (rl : Addr) (own : List (Addr × Obj)) (rvs : List Value) (rns : List Int) (rk : Nat)
  (N : News h₀ L s.heap ((rl, listOf rvs.toArray rk) :: own)) (hi : IntsAre rvs rns) (hlen : rns.length = 128)
  (T : Top q (looseW q loose) mean mg mb h₀) (hk : cs.kind = .function)
  (d : Int) (td : Tok) (hd0 : 0 ≤ d) (hd1 : d < 256) (c : Int) (tc : Tok)
  (hd : dp + 1 < recursionLimit) (hu : un + 8 < cLine)
  (ret : ∀ (D : Addr) (vs : List Value) (ns : List Int) (h' : Heap) (tk' : Nat), @LT.lt Nat _ rl D → AllLt D own → IntsAre vs ns → ns = trow rns d c 128 →
    Fr h₀ L h' m → News h₀ L h' ((D, listOf vs.toArray 0) :: (rl, listOf rvs.toArray rk) :: own) → Q (.ref D) { s with heap := h', toks := tk' }) :
  wpAny (model PySem.Challenge.rw_yi0046_01.row.prog w) (ktrTop dp un gd cn cs L a ccd cl outer) (call (.ref (nat_lit 454)) [.ref rl, .int d td, .int c tc]) Q E s := by
  revert X
  k_fill
  intro X
  w_on
  refine wpAny_call ?_
  k_dflt cell_enter
  k_steps
  refine ⟨?_⟩
  rename Fr _ _ _ _ => lF'
  rename News _ _ _ _ => lN'
  rename IsRange _ _ _ _ _ _ _ _ => rgX
  rename IntsAre (List.flatten _) _ => hI0
  rename _ ∧ _ ∧ AllLt _ _ => hlt
  rename _ ∧ AllLt _ _ => hlt0
  have e0 : ((List.replicate (Int.toNat 256) [(0 : Int)]).flatten) = trow rns d c 0 := by rw [trow]; simp
  rw [e0] at hI0
  refine' kst_range (fun c : List Value × List Int => (_, listOf c.1.toArray 0) :: _) (fun c => []) (fun c => IntsAre c.1 c.2) [] (fun pre r => r.2 = trow rns d c pre.length) (_, _) (by rfl) rgX (by decide) (by rfl) lF' lN' hI0 ?ka rfl ?kt ?kd
  case ka => exact List.forall_mem_nil _
  case kt =>
    clear lF' lN'
    rintro ⟨vs, ns⟩ pre k t2 u h tk own2 hk2 hlt2 off2 hf e1 F2 N2
    dsimp only [kstB, List.contains_nil] at e1 F2 N2 hf
    simp only [Bool.false_eq_true, if_false] at F2
    simp only [List.cons_append] at N2
    subst e1
    rw [Int.zero_add] at hk2
    subst hk2
    have hlt3 : pre.length < 128 := hlt2
    have offD := off_app (off_lt hlt.2.2) (off_sub off2 (l' := [_]) (by intro b hb; rw [List.mem_singleton.mp hb]; exact .head _))
    have hlr := trow_len rns d c pre.length
    have hm1 := fmod_lo d (n := 2) (by decide)
    have hm2 := fmod_hi d (n := 2) (by decide)
    have hm3 : 0 ≤ d.fdiv 2 := Int.fdiv_nonneg hd0 (by decide)
    clear off2 hlt2
    k_steps
  case kd =>
    clear lF' lN'
    rintro ⟨vs, ns⟩ u h tk hf e1 F2 N2
    dsimp only [kstB, List.contains_nil] at e1 F2 N2 hf
    simp only [Bool.false_eq_true, if_false] at F2
    have e2 : ns = trow rns d c 128 := by rw [e1, rangeKs_length]
    clear e1
    k_steps
    exact ret _ _ _ _ _ hlt.2.1 hlt.2.2 hf e2 (by assumption) (kst_newsOf (by assumption) (by kst_inAny))
end Mine
namespace Mine
open PySem PySem.W PyProof.Rows PySem.Spec PySem.Calls
set_option maxRecDepth 100000
set_option maxHeartbeats 4000000
/-- the texts that _br makes of its number -/
def bx1 (i : Int) : Str := baseText "0b" 2 (Builtin.bitAnd i (2 ^ Int.toNat 7 - 1))
def bx2 (i : Int) : Str := Txt.slice (bx1 i) (some 2) none
def bx3 (i : Int) : Str := Txt.zfill (bx2 i) 7
def revS (x : Str) : Str := ⟨((slicePicked x none none (some (-1, 0))).filterMap (x.cps[·]?)).toArray⟩
def bx4 (i : Int) : Str := revS (bx3 i)
def br7 (n : Nat) : Nat := (List.range 7).foldl (fun acc k => 2 * acc + n / 2 ^ k % 2) 0
theorem bx_len (n : Nat) (h : n < 128) : (bx1 n).length ≤ 100 ∧ (bx2 n).length ≤ 100 ∧ (bx3 n).length ≤ 100 ∧ (bx4 n).length ≤ 100 := by
  revert n; decide +kernel
theorem bx_seen (n : Nat) (h : n < 128) : (bx4 n).cps.all (· < 128) = true ∧ ((bx4 n).cps.toList.takeWhile (· != 0)).length ≤ 640 ∧ (((bx4 n).cps.toList.takeWhile (· != 0)).length == (bx4 n).cps.toList.length) = true := by
  revert n; decide +kernel
theorem bx_read : (List.range 128).map (fun n : Nat => (int_private% "readNumeral") 0 2 ((bx4 n).cps.toList.takeWhile (· != 0))) = (List.range 128).map (fun n : Nat => (int_private% "Numeral.value") (br7 n : Int)) := by kernel_rfl
theorem bx_value (n : Nat) (h : n < 128) : (int_private% "readNumeral") 0 2 ((bx4 n).cps.toList.takeWhile (· != 0)) = (int_private% "Numeral.value") (br7 n : Int) :=
  List.map_inj_left.mp bx_read n (List.mem_range.mpr h)
theorem br7_lt (n : Nat) (h : n < 128) : br7 n < 128 := by revert n; decide +kernel
section
variable {prog : Program} {w : World} {A : Around} {E : Value → Shared → Prop} {s : Shared} {Q : Value → Shared → Prop} {t u v : Tok} {h₀ : Heap} {L : Addr} {m : Str → Option Value} {news : List (Addr × Obj)}
theorem call_bin7 {i : Int} (h0 : 0 ≤ i) (h1 : i < 128) (h : ∀ x, x = bx1 i → x.length ≤ 100 → Q (.str x s.toks) { s with toks := s.toks + 1 }) :
    wpAny (model prog w) A (call (.builtin "bin") [.int (Builtin.bitAnd i (2 ^ Int.toNat 7 - 1)) t]) Q E s := by
  obtain ⟨n, rfl⟩ := Int.eq_ofNat_of_zero_le h0
  have hl := (bx_len n (by omega)).1
  exact P.bin_of_int (h _ rfl hl) (by rw [PySem.sizeLine_eq]; exact Nat.le_trans hl (by decide))
theorem slice_revN {x : Str} {uj : Tok} {value slice : Expr} (hF : Fr h₀ L s.heap m) (hN : News h₀ L s.heap news) (h : ∀ h' t' k, Fr h₀ L h' m → News h₀ L h' news → Q (.str (revS x) t') { s with heap := h', toks := k })
    (hsz : (revS x).length ≤ sizeLine)
    (hs : subscripted slice false (.str x t) (.ref s.heap.objs.size) = operate [.ref s.heap.objs.size, .str x t] (getItem (.str x t) (.ref s.heap.objs.size)) := by with_unfolding_all rfl)
    (ht : ∀ r, letTemporaryGo value (.str x t) r = pure () := by intro _; with_unfolding_all rfl) :
    wpAny (model prog w) A (subscriptTail value slice (.str x t) (.ref s.heap.objs.size)) Q E { s with heap := s.heap.push { cls := .type "slice", data := .fields #[.none, .none, .int (-1) uj] } } :=
  tail_of_ItemOn ⟨"str", _, F.slot_str_getitem.lookup, typeIs_str _ _ _, wpAny_getItem_str_slice (l := none) (u := none) (st := some (-1, uj)) ⟨_, Heap.get?_push_size _ rfl, rfl, rfl⟩ rfl
    (by
      unfold sliceMade
      rw [if_neg (by simp)]
      exact ⟨hsz, h _ _ _ (hF.push _) fun p hp => ⟨Heap.get?_push_of_some _ (hN p hp).1, (hN p hp).2⟩⟩)⟩ hs ht
theorem gives_text2 {x : Str} {n : Int} (h1 : x.cps.all (· < 128) = true) (hs : (x.cps.toList.takeWhile (· != 0)).length ≤ 640)
    (hr : (int_private% "readNumeral") 0 2 (x.cps.toList.takeWhile (· != 0)) = (int_private% "Numeral.value") n) (ha : ((x.cps.toList.takeWhile (· != 0)).length == x.cps.toList.length) = true) :
    Gives (Builtin.«int.__new__» ⟨[.type "int", .str x u, .int 2 v], []⟩) (.int n) :=
  .of_wp fun M A E s Q h => by
    obtain ⟨hp, g, d, tk, os⟩ := s
    have f1 := F.conv_sub_int
    have f2 := F.madeHere_int
    have f6 : typeOf (.str x u) = pure (.type "str") := rfl
    repeat (any_goals (first
      | assumption
      | (with_reducible refine wpAny_ite_true h1 ?_)
      | (with_reducible refine wpAny_ite_true (decide_eq_true hs) ?_)
      | (with_reducible refine wpAny_ite_true (decide_eq_true ha) ?_)
      | wp_step))
    simp only [if_pos h1]
    rw [show Int.toNat 2 = 2 from rfl, hr]
    dsimp only
    repeat (any_goals (first
      | assumption
      | (with_reducible refine wpAny_ite_true (decide_eq_true ha) ?_)
      | wp_step))
    exact ⟨_, rfl, h⟩
theorem typeCall2 (a b : Value) : checkTypeCall "int" ⟨[a, b], []⟩ = pure () := by kernel_rfl
theorem newCall2 (a b : Value) : checkBuiltinCall "int.__new__" ⟨[.type "int", a, b], []⟩ = pure () := by kernel_rfl
theorem argsInit3 (o a b : Value) : argsOk "object.__init__" ⟨[o, a, b], []⟩ := by unfold argsOk; kernel_rfl
theorem call_int2 {i : Int} {x : Str} {u v : Tok} (h0 : 0 ≤ i) (h1 : i < 128) (hx : x = bx4 i) (h : ∀ r : Int, r = (br7 i.toNat : Int) → 0 ≤ r → r < 128 → Q (.int r s.toks) { s with toks := s.toks + 1 }) :
    wpAny (model prog w) A (call (.type "int") [.str x u, .int 2 v]) Q E s := by
  obtain ⟨n, rfl⟩ := Int.eq_ofNat_of_zero_le h0
  subst hx
  have hs := bx_seen n (by omega)
  have g := gives_text2 (u := u) (v := v) hs.1 hs.2.1 (bx_value n (by omega)) hs.2.2
  have hb := br7_lt n (by omega)
  have hq := h (br7 n : Int) (by simp) (by omega) (by omega)
  exact callType_new F.called_int F.newNe_int (typeCall2 _ _) (newCall2 _ _) (fun obj => argsInit3 obj _ _) F.entry_int_new g.meets (show (Made.int (br7 n : Int)).post _ s from ⟨rfl, hq⟩)
end
end Mine
namespace Mine
open PySem PySem.W PyProof.Rows PySem.Spec PySem.Calls
set_option maxRecDepth 100000
set_option maxHeartbeats 2000000
local macro_rules | `(tactic| walk_at "call builtin:bin") => `(tactic| (k_here; (with_reducible show wpAny _ _ (call (Value.builtin "bin") [Value.int _ _]) _ _ _); (refine call_bin7 ?a ?b ?_; (case a => assumption); (case b => assumption)); intro xB eB lB))
local macro_rules | `(tactic| walk_at "subscriptTail Name Slice str ref") => `(tactic| ((with_reducible show wpAny _ _ (subscriptTail _ (PySem.Expr.Slice none none (some _) _) (Value.str _ _) (Value.ref _)) _ _ _); refine Hold.out ?_))
theorem bx4_size {i : Int} (h0 : 0 ≤ i) (h1 : i < 128) : (bx4 i).length ≤ sizeLine := by
  obtain ⟨n, rfl⟩ := Int.eq_ofNat_of_zero_le h0
  rw [PySem.sizeLine_eq]
  exact Nat.le_trans (bx_len n (by omega)).2.2.2 (by decide)
theorem br_call (w : World) (mean : ExcName → Option Value) (mg mb : Str → Option Value) (dp un : Nat) (gd : Option (List Code)) (cn : Str) (cs : Scope) (a : Addr) (ccd : Value) (cl : List (Str × Addr)) (outer : List Env) (A₀ : Around) (base h₀ : Heap) (L : Addr) (m : Str → Option Value) (s : Shared) (Q E : Value → Shared → Prop)
  (B : Below A₀ base outer h₀) (F : Fr h₀ L s.heap m) (X : (K w.params).In h₀) (own : List (Addr × Obj))
  (N : News h₀ L s.heap own)
  (T : Top q (looseW q loose) mean mg mb h₀) (hk : cs.kind = .function)
  (i : Int) (ti tk7 : Tok) (hi0 : 0 ≤ i) (hi1 : i < 128)
  (hd : dp + 1 < recursionLimit) (hu : un + 8 < cLine)
  (ret : ∀ (r : Int) (t' : Tok) (h' : Heap) (tk' : Nat), r = (br7 i.toNat : Int) → 0 ≤ r → r < 128 →
    Fr h₀ L h' m → News h₀ L h' own → Q (.int r t') { s with heap := h', toks := tk' }) :
  wpAny (model PySem.Challenge.rw_yi0046_01.row.prog w) (ktrTop dp un gd cn cs L a ccd cl outer) (call (.ref (nat_lit 245)) [.int i ti, .int 7 tk7]) Q E s := by
  revert X
  k_fill
  intro X
  w_on
  refine wpAny_call ?_
  k_dflt cell_enter
  k_steps
  refine ⟨?_⟩
  refine' slice_revN ?F ?N ?_ ?z ?s ?t
  case F => k_asm
  case N => k_asm
  case s => with_unfolding_all rfl
  case t => intro _; with_unfolding_all rfl
  case z => subst_vars; exact bx4_size (by assumption) (by assumption)
  intro h' t' k' F' N'
  k_steps
  refine call_int2 hi0 hi1 ?c ?_
  case c => subst_vars; rfl
  intro r e r0 r1
  k_steps
  exact ret _ _ _ _ e r0 r1 (by assumption) (by assumption)
end Mine
namespace Mine
open PySem PySem.W PyProof.Rows PySem.Spec PySem.Calls
set_option maxRecDepth 100000
set_option maxHeartbeats 4000000
local macro_rules | `(tactic| walk_at "call builtin:pow") => `(tactic| (k_here; (with_reducible show wpAny _ _ (call (Value.builtin "pow") [Value.int _ _, Value.int _ _, Value.int _ _]) _ _ _); (refine call_pow3r ?b ?_; (case b => first | decide | omega)); intro rP eP hP0 hP1; subst eP))
local macro_rules | `(tactic| walk_at "call builtin:pow") => `(tactic| (k_here; (with_reducible show wpAny _ _ (call (Value.builtin "pow") [Value.int 128 _, Value.int _ _, Value.int _ _]) _ _ _); (refine call_pow_inv ?_)))
local macro_rules | `(tactic| walk_at "call ref") => `(tactic| (k_here; (with_reducible show wpAny _ _ (call (Value.ref _) [Value.int _ _, Value.int 7 _]) _ _ _); k_dflt (refine' br_call _ _ _ _ _ _ _ _ _ _ _ _ _ _ _ _ _ _ _ _ _ ?kB ?kF ?kX _ ?kN ?kT ?kK _ _ _ ?k0 ?k1 ?kd ?ku ?_; (case kB => k_asm); (case kF => k_asm); (case kX => k_asm); (case kN => k_asm); (case kT => k_asm); (case kK => exact rfl); (case k0 => assumption); (case k1 => omega); (case kd => exact Nat.le_of_ble_eq_true rfl); (case ku => exact Nat.le_of_ble_eq_true rfl)); intro rI t' h' tk' eI rI0 rI1 F' N'; subst eI))
def zet : List Int := (List.range 128).map fun n => ((17 ^ br7 n % 3329 : Nat) : Int)
theorem zet_eq : (rangeKs 0 (128 - 0 : Int).toNat).map (fun k' : Int => if 0 ≤ (br7 k'.toNat : Int) ∧ (br7 k'.toNat : Int) < 128 ∧ 0 ≤ pm 17 (br7 k'.toNat : Int) ∧ pm 17 (br7 k'.toNat : Int) < 3329 then pm 17 (br7 k'.toNat : Int) else k') = zet := by decide +kernel
theorem news_pick {h₀ h : Heap} {L : Addr} {a b c x d : Addr × Obj} {r : List (Addr × Obj)} (N : News h₀ L h (a :: b :: c :: x :: d :: r)) : News h₀ L h (x :: d :: a :: r) := fun p hp => N p (by
  rcases List.mem_cons.mp hp with e | hp
  · rw [e]; exact .tail _ (.tail _ (.tail _ (.head _)))
  rcases List.mem_cons.mp hp with e | hp
  · rw [e]; exact .tail _ (.tail _ (.tail _ (.tail _ (.head _))))
  rcases List.mem_cons.mp hp with e | hp
  · rw [e]; exact .head _
  exact .tail _ (.tail _ (.tail _ (.tail _ (.tail _ hp)))))
theorem ring_call (w : World) (mean : ExcName → Option Value) (mg mb : Str → Option Value) (fa : Addr) (ccd : Value) (base h₀ : Heap) (L : Addr) (m : Str → Option Value) (s : Shared) (Q E : Value → Shared → Prop)
  (B : Below callerA base [] h₀) (F : Fr h₀ L s.heap m) (X : (K w.params).In h₀) (st c : Addr) (o1 o2 : Obj)
  (N : News h₀ L s.heap [(st, o1), (c, o2)]) (hne : @Ne Nat st c)
  (T : Top q (looseW q loose) mean mg mb h₀)
  (ret : ∀ (x dx z : Addr) (zvs : List Value) (zns : List Int) (zk : Nat) (k1 v1 k2 v2 k3 k4 v4 : Tok) (h' : Heap) (tk' : Nat), IntsAre zvs zns → zns = zet →
    (@LT.lt Nat _ st dx ∧ @LT.lt Nat _ c dx) → @LT.lt Nat _ dx x → (@Ne Nat x z ∧ @Ne Nat dx z ∧ @Ne Nat st z ∧ @Ne Nat c z) → Fr h₀ L h' m →
    News h₀ L h' [(x, instObj (nat_lit 282) dx), (dx, dictOf [⟨PyData.keyHash w.params (Str.ofString "q"), .str (Str.ofString "q") k1, .int 3329 v1⟩, ⟨PyData.keyHash w.params (Str.ofString "n"), .str (Str.ofString "n") k2, .int 256 v2⟩,
      ⟨PyData.keyHash w.params (Str.ofString "ntt_zetas"), .str (Str.ofString "ntt_zetas") k3, .ref z⟩, ⟨PyData.keyHash w.params (Str.ofString "ntt_f"), .str (Str.ofString "ntt_f") k4, .int 3303 v4⟩] 4), (z, listOf zvs.toArray zk), (st, o1), (c, o2)] →
    Q (.ref x) { s with heap := h', toks := tk' }) :
  wpAny (model PySem.Challenge.rw_yi0046_01.row.prog w) (callerA.deeper (envOf (Str.ofString "law") S_13 L fa ccd)) (call (.ref (nat_lit 282)) []) Q E s := by
  revert X
  k_fill
  intro X
  w_on
  k_steps
  rename IntsAre _ _ => hI
  rename News _ _ _ _ => kN
  dsimp only at kN
  have kN3 := news_pick kN
  rename _ ∧ _ ∧ _ ∧ _ ∧ _ ∧ _ => o1'
  refine ret _ _ _ _ _ _ _ _ _ _ _ _ _ _ _ hI zet_eq ?_ ?_ ?_ (by assumption) kN3
  · omega
  · assumption
  · exact ⟨o1'.2.2.1, o1'.2.2.2.1, o1'.2.2.2.2.1, o1'.2.2.2.2.2⟩
end Mine
namespace Mine
open PySem PySem.W PyProof.Rows PySem.Spec PySem.Calls
def bstep (z l j : Int) (cs : List Int) : List Int :=
  ((cs.set j.toNat (cs.getD j.toNat 0 + cs.getD (j + l).toNat 0)).set (j + l).toNat ((cs.set j.toNat (cs.getD j.toNat 0 + cs.getD (j + l).toNat 0)).getD (j + l).toNat 0 - cs.getD j.toNat 0)).set (j + l).toNat
    (z * ((cs.set j.toNat (cs.getD j.toNat 0 + cs.getD (j + l).toNat 0)).set (j + l).toNat ((cs.set j.toNat (cs.getD j.toNat 0 + cs.getD (j + l).toNat 0)).getD (j + l).toNat 0 - cs.getD j.toNat 0)).getD (j + l).toNat 0)
def bloop (z l st : Int) (cs : List Int) : Nat → List Int
  | 0 => cs
  | n + 1 => bstep z l (st + (n : Int)) (bloop z l st cs n)
def blocks (zns : List Int) (l k0 : Int) (cs : List Int) : Nat → List Int
  | 0 => cs
  | b + 1 => bloop (zns.getD (k0 - (b : Int)).toNat 0) l (2 * l * (b : Int)) (blocks zns l k0 cs b) l.toNat
def layers (zns : List Int) (cs : List Int) : Nat → List Int
  | 0 => cs
  | n + 1 => blocks zns ((2 ^ (n + 1) : Nat) : Int) (((2 ^ (7 - n) : Nat) : Int) - 1) (layers zns cs n) (2 ^ (6 - n))
def floop (cs : List Int) : Nat → List Int
  | 0 => cs
  | n + 1 => (floop cs n).set n (((floop cs n).getD n 0 * 3303).fmod 3329)
theorem bstep_len (z l j : Int) (cs : List Int) : (bstep z l j cs).length = cs.length := by
  unfold bstep; rw [List.length_set, List.length_set, List.length_set]
theorem bloop_len (z l st : Int) (cs : List Int) (n : Nat) : (bloop z l st cs n).length = cs.length := by
  induction n with
  | zero => rw [bloop]
  | succ n ih => rw [bloop, bstep_len, ih]
theorem blocks_len (zns : List Int) (l k0 : Int) (cs : List Int) (n : Nat) : (blocks zns l k0 cs n).length = cs.length := by
  induction n with
  | zero => rw [blocks]
  | succ n ih => rw [blocks, bloop_len, ih]
theorem layers_len (zns cs : List Int) (n : Nat) : (layers zns cs n).length = cs.length := by
  induction n with
  | zero => rw [layers]
  | succ n ih => rw [layers, blocks_len, ih]
theorem floop_len (cs : List Int) (n : Nat) : (floop cs n).length = cs.length := by
  induction n with
  | zero => rw [floop]
  | succ n ih => rw [floop, List.length_set, ih]
section
variable {prog : Program} {w : World} {A : Around} {E : Value → Shared → Prop} {s : Shared} {env : Env} {h₀ : Heap} {x : Str} {body : List Stmt} {Q : Flow → Shared → Prop}
/-- a range's loop whose own name is a letter: its last value is known behind the loop -/
theorem my_range {σ : Type} {r : Addr} {a₀ b₀ : Int} {t₀ u₀ v₀ : Tok} {n : Nat} {m₀ : Str → Option Value} (Led : σ → List (Addr × Obj)) (ps : σ → List (Str × Value)) (Facts : σ → Prop) (stored : List Str) (P : List Int → σ → Prop) (c₀ : σ)
    (hh : A.handled = none) (hr : IsRange s.heap r a₀ b₀ 1 t₀ u₀ v₀) (hsmall : Builtin.Range.small a₀ b₀ 1 = true) (hn : Builtin.Range.rangeSize a₀ b₀ 1 = (n : Int)) (F : Fr h₀ env.locals s.heap m₀) (N : News h₀ env.locals s.heap (Led c₀)) (hf : Facts c₀) (hk : ∀ p ∈ ps c₀, m₀ p.1 = some p.2) (hp : P [] c₀)
    (hx : ∀ c, ∃ p ∈ ps c, p.1 = x)
    (turn : ∀ (c : σ) (pre : List Int) (k : Int) t (u : Str → Option Value) h tk own, k = a₀ + (pre.length : Int) → pre.length < n → OwnOff own ((Led c₀).map (·.1)) → Facts c → P pre c →
      Fr h₀ env.locals h (fun y => if y = x then some (.int k t) else kstB (fun z => if stored.contains z then u z else m₀ z) (ps c) y) → News h₀ env.locals h (Led c ++ own) →
      wpAny (model prog w) A (execs body env) (InvPostN h₀ env.locals (KstS Led ps Facts x stored m₀ P (pre ++ [k])) own ((Led c₀).map (·.1)) { s with heap := h, toks := tk } Q) E { s with heap := h, toks := tk })
    (done : ∀ (c : σ) (u : Str → Option Value) h tk, Facts c → P (rangeKs a₀ n) c → Fr h₀ env.locals h (kstB (fun z => if stored.contains z then u z else m₀ z) (ps c)) → News h₀ env.locals h (Led c) → Q .next { s with heap := h, toks := tk }) :
    wpAny (model prog w) A (pyIter (.ref r)) (fun it s₂ => LoopAtV prog w A h₀ env x body Q E it s₂) E s := by
  refine wpAny_pyIter_range hr hsmall ?_
  have W : Walks prog w A s.heap.objs.size [s.heap.objs.size] [s.heap.objs.size] n (fun i v => i < n ∧ ∃ t, v = .int (a₀ + i * 1) t)
      (fun i h => IsRangeIter h s.heap.objs.size (a₀ + (i : Nat) * 1) ((n : Int) - (i : Nat)) 1) := (Walks.range hh _ a₀ 1 n).bound
  refine loop_invN (fun i m nx => KstS Led ps Facts x stored m₀ P ((rangeKs a₀ n).take i) m nx) W ?_ ?_ ?_ ?_ (by show IsRangeIter _ _ _ _ _; rw [hn]; simpa using Heap.get?_push_size _ rfl) (F.push _) (fun p hp => ⟨Heap.get?_push_of_some _ (N p hp).1, (N p hp).2⟩) ⟨c₀, rfl, hf, hk, fun _ _ _ _ => rfl, by simpa using hp⟩ ?_ ?_
  · intro hm
    exact absurd F.ns.lt ((List.mem_singleton.mp hm) ▸ Nat.lt_irrefl _)
  · intro b hb
    rw [List.mem_singleton.mp hb]
    exact next_is_new F
  · intro p hp hI
    exact absurd (Heap.lt_size (N p hp).1) ((List.mem_singleton.mp hI) ▸ Nat.lt_irrefl _)
  · intro p hp hI
    exact absurd (Heap.lt_size (N p hp).1) ((List.mem_singleton.mp hI) ▸ Nat.lt_irrefl _)
  · rintro i v m₁ nx h tk own hi ⟨_, t, rfl⟩ _ hoff ⟨c, rfl, hf', h1, h2, hp'⟩ F₁ N₁
    have e1 : a₀ + (i : Int) * 1 = a₀ + (i : Int) := by omega
    rw [e1] at F₁
    have hk' : (rangeKs a₀ n)[i]? = some (a₀ + (i : Int)) := by simp [rangeKs, hi]
    have hs : (rangeKs a₀ n).take (i + 1) = (rangeKs a₀ n).take i ++ [a₀ + (i : Int)] := by simp [List.take_add_one, hk']
    have hlen : ((rangeKs a₀ n).take i).length = i := by rw [List.length_take, rangeKs_length]; omega
    rw [hs]
    exact turn c _ _ t m₁ h tk own (by rw [hlen]) (by rw [hlen]; exact hi) hoff hf' hp' (kst_fr h1 h2 F₁) N₁
  · rintro m₁ nx h tk ⟨c, rfl, hf', h1, h2, hp'⟩ F₁ N₁
    have hl : (rangeKs a₀ n).take n = rangeKs a₀ n := List.take_of_length_le (Nat.le_of_eq (rangeKs_length _ _))
    rw [hl] at hp'
    refine done c m₁ h tk hf' hp' (ksw_fr h1 (fun z hz hs => h2 z ?_ hz hs) F₁) N₁
    obtain ⟨p, hp, e⟩ := hx c
    exact fun e' => hz p hp (e'.trans e.symm)
end
end Mine
namespace Mine
open PySem PySem.W PyProof.Rows PySem.Spec PySem.Calls
theorem stage_cases (sN : Nat) (h : sN ≤ 7) (l kk : Int) (hl : l = ((2 ^ (sN + 1) : Nat) : Int)) (hkk : kk = ((2 ^ (7 - sN) : Nat) : Int) - 1) :
    (sN = 7 ∧ l = 256) ∨ (sN ≤ 6 ∧ 2 ≤ l ∧ l ≤ 128 ∧ ∃ nb : Nat, nb = 2 ^ (6 - sN) ∧ 1 ≤ nb ∧ nb ≤ 64 ∧ kk = 2 * nb - 1 ∧ 2 * l * nb = 256 ∧ l * 2 = ((2 ^ (sN + 1 + 1) : Nat) : Int) ∧ kk - nb = ((2 ^ (7 - (sN + 1)) : Nat) : Int) - 1) := by
  have h8 : sN = 0 ∨ sN = 1 ∨ sN = 2 ∨ sN = 3 ∨ sN = 4 ∨ sN = 5 ∨ sN = 6 ∨ sN = 7 := by omega
  rw [hl, hkk]
  rcases h8 with rfl | rfl | rfl | rfl | rfl | rfl | rfl | rfl
  all_goals first
    | exact .inl ⟨rfl, rfl⟩
    | exact .inr ⟨by decide, by decide, by decide, _, rfl, by decide, by decide, by decide, by decide, by decide, by decide⟩
section
variable {M : Model} {A : Around} {E : Value → Shared → Prop} {s : Shared} {K : Frag} {env : Env} {pos : Pos} {x C : Addr} {ox : Obj} {od : Option Obj} {first : List Value} {Q : Value → Shared → Prop}
theorem inst_kw {e : Expr} {rest : List Expr} {kws : List Keyword} (_X : K.In s.heap) (_I : InstAt s.heap x ox C od) (hd : ox.data = .plain) (hall : (backToKw pos (keywordEach kws env)).all (·.1.isSome) = true)
    (h : wpAny M A (spliced (backTo pos (starEach (e :: rest) env))) (fun vs s₁ => wpAny M A (evalAll ((backToKw pos (keywordEach kws env)).map (·.2)))
      (fun ks s₂ => kco_P K x C ox od s₂.heap ∧ wpAny M A (call (.ref x) (first ++ vs) (((backToKw pos (keywordEach kws env)).filterMap (·.1)).zip ks)) Q E s₂) E s₁) E s)
    (hplain : ((backTo pos (starEach (e :: rest) env)).any (·.1) || (backToKw pos (keywordEach kws env)).any (·.1.isNone)) = false := by rfl) (he : starEach (e :: rest) env = (false, eval e env) :: starEach rest env := by rfl) :
    wpAny M A (callWith pos (.ref x) first (backTo pos (starEach (e :: rest) env)) (backToKw pos (keywordEach kws env))) Q E s :=
  kco_callWith_of hplain hd (evalArgs_kw2 hall h he)
end
end Mine
namespace Mine
open PySem PySem.W PyProof.Rows PySem.Spec PySem.Calls
def pz (zns : List Int) (i : Int) : Int := zns.getD (64 + i).toNat 0
def pe (ns : List Int) (i j : Int) : Int := ns.getD (4 * i + j).toNat 0
def pquad (ns ms zns : List Int) (i : Int) : List Int :=
  [(pe ns i 0 * pe ms i 0 + pz zns i * pe ns i 1 * pe ms i 1).fmod 3329, (pe ns i 1 * pe ms i 0 + pe ns i 0 * pe ms i 1).fmod 3329,
   (pe ns i 2 * pe ms i 2 + -pz zns i * pe ns i 3 * pe ms i 3).fmod 3329, (pe ns i 3 * pe ms i 2 + pe ns i 2 * pe ms i 3).fmod 3329]
def pmul (ns ms zns : List Int) : Nat → List Int
  | 0 => []
  | n + 1 => pmul ns ms zns n ++ pquad ns ms zns (n : Int)
theorem pmul_len (ns ms zns : List Int) (n : Nat) : (pmul ns ms zns n).length = 4 * n := by
  induction n with
  | zero => rw [pmul]; rfl
  | succ n ih => rw [pmul, List.length_append, ih, pquad]; dsimp only [List.length_cons, List.length_nil]; omega
end Mine
namespace Mine
open PySem PySem.W PyProof.Rows PySem.Spec PySem.Calls
set_option maxRecDepth 100000
theorem lk_li : typeLookup (.type "list") (dunderI "add") = pure (some (.builtin "list.__iadd__")) := PySem.F.slot_list_iadd.lookup
theorem fills_li : fillsInplaceSlot (.type "list") "add" true = pure false := by
  show (typeLookup (.type "list") (dunderI "add") >>= fun fi => pure (fi.isSome && !isSeqSlot fi)) = pure false
  rw [lk_li]; rfl
theorem fills_ln : fillsNumberSlot (.type "list") "add" = pure false := by
  first | exact PySem.noFill_list_add | exact PySem.F.noFill_list_add | exact PyProof.Rows.noFill_list_add | exact PySem.ListOps.noFill_list_add
theorem seq_li : seqSlot? (.type "list") (dunderI "add") = pure (some (.builtin "list.__iadd__")) := by
  show (typeLookup (.type "list") (dunderI "add") >>= fun fi => _) = _
  rw [lk_li]; rfl
theorem args_li (a b : Value) : argsOk "list.__iadd__" ⟨[a, b], []⟩ := by unfold argsOk; kernel_rfl
section
variable {prog : Program} {w : World} {A : Around} {E : Value → Shared → Prop} {s : Shared} {h₀ : Heap} {L D b : Addr} {m : Str → Option Value} {news news' : List (Addr × Obj)} {its its2 : List Value} {n n2 : Nat}
theorem iadd_list {Q : Value → Shared → Prop} (F : Fr h₀ L s.heap m) (N : News h₀ L s.heap news) (hb : (b, listOf its2.toArray n2) ∈ news) (hne : its2.length ≠ 0)
    (U : Upd D (listOf its.toArray n) (listOf (its ++ its2).toArray (n + 1)) news news') (hz : its.length + its2.length ≤ 1024)
    (h : ∀ h', Fr h₀ L h' m → News h₀ L h' news' → Q (.ref D) { s with heap := h' }) : wpAny (model prog w) A (inplaceOp .Add (.ref D) (.ref b)) Q E s := by
  obtain ⟨pre, post, rfl, rfl, a, c⟩ := U.split
  have z := N (D, listOf its.toArray n) (List.mem_append.mpr (.inr (.head _)))
  have hT : s.TypeIs (.ref D) "list" := ⟨_, z.1, rfl⟩
  have hT2 : s.TypeIs (.ref b) "list" := ⟨_, (N _ hb).1, rfl⟩
  unfold inplaceOp
  refine wpAny_holding ?_
  refine wpAny_bind (wpAny_typeOf hT (wpAny_bind (wpAny_of_eq fills_li ?_)))
  show wpAny _ A (if false = true then _ else _) Q E s
  rw [if_neg Bool.false_ne_true]
  refine wpAny_bind (wpAny_binaryOp1_none (nm := "add") hT hT2 fills_ln ?_)
  refine wpAny_bind (wpAny_of_eq seq_li ?_)
  refine wpAny_bind (wpAny_rule ?_)
  refine call_meets PySem.F.slot_list_iadd hT PySem.F.entry_list_iadd (args_li _ _) (PySem.AutoSeq1.list___iadd___list_list_0 D its.toArray n b its2.toArray n2 ?_ ?_ ?_) ⟨z.1, (N _ hb).1, h _ (F.change (Heap.SameBut.update ..) z.2.1 z.2.2) (kl_turn _ N a c ?_ ?_)⟩
  · simp [Builtin.List.listTooLong, PySem.sizeLine_eq]; omega
  · rw [PySem.sizeLine_eq, List.size_toArray]; omega
  · rw [PySem.sizeLine_eq, List.size_toArray, List.size_toArray]; omega
  · simp
  · rw [List.size_toArray, List.size_toArray, List.length_append]; omega
end
end Mine
namespace Mine
open PySem PySem.W PyProof.Rows PySem.Spec PySem.Calls
set_option maxRecDepth 100000
set_option maxHeartbeats 4000000
theorem poly_call (w : World) (mean : ExcName → Option Value) (mg mb : Str → Option Value) (fa : Addr) (ccd : Value) (base h₀ : Heap) (L : Addr) (m : Str → Option Value) (s : Shared) (Q E : Value → Shared → Prop)
  (B : Below callerA base [] h₀) (F : Fr h₀ L s.heap m) (X : (K w.params).In h₀)
  (D z x dx : Addr) (own : List (Addr × Obj)) (vs : List Value) (ns : List Int) (k1 v1 k2 v2 k3 k4 v4 : Tok)
  (N : News h₀ L s.heap ((D, listOf vs.toArray 0) :: (x, instObj (nat_lit 282) dx) :: (dx, dictOf [⟨PyData.keyHash w.params (Str.ofString "q"), .str (Str.ofString "q") k1, .int 3329 v1⟩, ⟨PyData.keyHash w.params (Str.ofString "n"), .str (Str.ofString "n") k2, .int 256 v2⟩,
      ⟨PyData.keyHash w.params (Str.ofString "ntt_zetas"), .str (Str.ofString "ntt_zetas") k3, .ref z⟩, ⟨PyData.keyHash w.params (Str.ofString "ntt_f"), .str (Str.ofString "ntt_f") k4, .int 3303 v4⟩] 4) :: own))
  (hi : IntsAre vs ns) (hlen : ns.length = 256)
  (T : Top q (looseW q loose) mean mg mb h₀)
  (ret : ∀ (p dp : Addr) (e1 e2 : Tok) (h' : Heap) (tk' : Nat), @LT.lt Nat _ dp p → (@LT.lt Nat _ D dp ∧ @LT.lt Nat _ x dp ∧ @LT.lt Nat _ dx dp ∧ AllLt dp own) → Fr h₀ L h' m →
    News h₀ L h' ((p, instObj (nat_lit 426) dp) ::
      (dp, dictOf [⟨PyData.keyHash w.params (Str.ofString "parent"), .str (Str.ofString "parent") e1, .ref x⟩, ⟨PyData.keyHash w.params (Str.ofString "coeffs"), .str (Str.ofString "coeffs") e2, .ref D⟩] 2) ::
      (D, listOf vs.toArray 0) :: (x, instObj (nat_lit 282) dx) :: (dx, dictOf [⟨PyData.keyHash w.params (Str.ofString "q"), .str (Str.ofString "q") k1, .int 3329 v1⟩, ⟨PyData.keyHash w.params (Str.ofString "n"), .str (Str.ofString "n") k2, .int 256 v2⟩,
      ⟨PyData.keyHash w.params (Str.ofString "ntt_zetas"), .str (Str.ofString "ntt_zetas") k3, .ref z⟩, ⟨PyData.keyHash w.params (Str.ofString "ntt_f"), .str (Str.ofString "ntt_f") k4, .int 3303 v4⟩] 4) :: own) →
    Q (.ref p) { s with heap := h', toks := tk' }) :
  wpAny (model PySem.Challenge.rw_yi0046_01.row.prog w) (callerA.deeper (envOf (Str.ofString "law") S_13 L fa ccd)) (call (.ref x) [.ref D] [(Str.ofString "is_ntt", .bool true)]) Q E s := by
  revert X
  k_fill
  intro X
  w_on
  k_steps
  rename News _ _ _ _ => kN
  dsimp only at kN
  exact ret _ _ _ _ _ _ (by assumption) (by assumption) (by assumption) kN
end Mine
namespace Mine
open PySem PySem.W PyProof.Rows PySem.Spec PySem.Calls
set_option maxRecDepth 100000
set_option maxHeartbeats 4000000
local macro_rules | `(tactic| walk_at "pyIter ref") => `(tactic| ((with_reducible show wpAny _ _ (pyIter (Value.ref _)) _ _ _); refine Hold.out ?_))
local macro_rules | `(tactic| walk_at "callWith ref") => `(tactic| (k_here; k_dflt (refine' inst_kw ?k1 ?k2 ?k3 ?k4 ?_; (case k1 => k_in); (case k2 => k_inst); (case k3 => rfl); (case k4 => rfl); k_whole)))
local macro_rules | `(tactic| walk_at "inplaceOp Add ref") => `(tactic| ((with_reducible show wpAny _ _ (inplaceOp Operator.Add (Value.ref _) (Value.ref _)) _ _ _); refine Hold.out ?_))
theorem ints_app {vs ws : List Value} {ns ms : List Int} (h : IntsAre vs ns) (k : IntsAre ws ms) : IntsAre (vs ++ ws) (ns ++ ms) := by
  induction h with
  | nil => exact k
  | cons n t _ ih => exact .cons n t ih
theorem news_7 {h₀ h : Heap} {L : Addr} {p d D c f1 d1 f2 d2 D1 D2 z x dx : Addr × Obj} {r : List (Addr × Obj)} (N : News h₀ L h (p :: d :: D :: c :: f1 :: d1 :: f2 :: d2 :: D1 :: D2 :: z :: x :: dx :: r)) : News h₀ L h (D :: z :: p :: d :: x :: dx :: r) := fun q hq => N q (by
  simp only [List.mem_cons] at hq ⊢
  rcases hq with e | e | e | e | e | e | e <;> simp only [e, true_or, or_true])
theorem mul_call (w : World) (mean : ExcName → Option Value) (mg mb : Str → Option Value) (fa : Addr) (ccd : Value) (base h₀ : Heap) (L : Addr) (m : Str → Option Value) (s : Shared) (Q E : Value → Shared → Prop)
  (B : Below callerA base [] h₀) (F : Fr h₀ L s.heap m) (X : (K w.params).In h₀)
  (f1 d1 D1 f2 d2 D2 z x dx : Addr) (own : List (Addr × Obj)) (vs ws zvs : List Value) (ns ms zns : List Int) (zk : Nat) (a1 a2 b1 b2 k1 v1 k2 v2 k3 k4 v4 : Tok)
  (N : News h₀ L s.heap ((f1, instObj (nat_lit 426) d1) ::
    (d1, dictOf [⟨PyData.keyHash w.params (Str.ofString "parent"), .str (Str.ofString "parent") a1, .ref x⟩, ⟨PyData.keyHash w.params (Str.ofString "coeffs"), .str (Str.ofString "coeffs") a2, .ref D1⟩] 2) ::
    (f2, instObj (nat_lit 426) d2) ::
    (d2, dictOf [⟨PyData.keyHash w.params (Str.ofString "parent"), .str (Str.ofString "parent") b1, .ref x⟩, ⟨PyData.keyHash w.params (Str.ofString "coeffs"), .str (Str.ofString "coeffs") b2, .ref D2⟩] 2) ::
    (D1, listOf vs.toArray 0) :: (D2, listOf ws.toArray 0) :: (z, listOf zvs.toArray zk) ::
    (x, instObj (nat_lit 282) dx) :: (dx, dictOf [⟨PyData.keyHash w.params (Str.ofString "q"), .str (Str.ofString "q") k1, .int 3329 v1⟩, ⟨PyData.keyHash w.params (Str.ofString "n"), .str (Str.ofString "n") k2, .int 256 v2⟩,
      ⟨PyData.keyHash w.params (Str.ofString "ntt_zetas"), .str (Str.ofString "ntt_zetas") k3, .ref z⟩, ⟨PyData.keyHash w.params (Str.ofString "ntt_f"), .str (Str.ofString "ntt_f") k4, .int 3303 v4⟩] 4) :: own))
  (hi : IntsAre vs ns) (hlen : ns.length = 256) (hj : IntsAre ws ms) (hlen2 : ms.length = 256) (hz : IntsAre zvs zns) (hzl : zns.length = 128)
  (hnb : ∀ n : Nat, 0 ≤ ns.getD n 0 ∧ ns.getD n 0 < 3329) (hmb : ∀ n : Nat, 0 ≤ ms.getD n 0 ∧ ms.getD n 0 < 3329) (hzb : ∀ n : Nat, 0 ≤ zns.getD n 0 ∧ zns.getD n 0 < 3329)
  (T : Top q (looseW q loose) mean mg mb h₀)
  (ret : ∀ (p dp D : Addr) (vs' : List Value) (ns' : List Int) (dk : Nat) (e1 e2 : Tok) (h' : Heap) (tk' : Nat), IntsAre vs' ns' → ns' = pmul ns ms zns 64 → (@Ne Nat D z ∧ @Ne Nat D p ∧ @Ne Nat D dp ∧ @Ne Nat D x ∧ @Ne Nat D dx) → AllLt D own → Fr h₀ L h' m →
    News h₀ L h' ((D, listOf vs'.toArray dk) :: (z, listOf zvs.toArray zk) :: (p, instObj (nat_lit 426) dp) ::
      (dp, dictOf [⟨PyData.keyHash w.params (Str.ofString "parent"), .str (Str.ofString "parent") e1, .ref x⟩, ⟨PyData.keyHash w.params (Str.ofString "coeffs"), .str (Str.ofString "coeffs") e2, .ref D⟩] 2) ::
      (x, instObj (nat_lit 282) dx) :: (dx, dictOf [⟨PyData.keyHash w.params (Str.ofString "q"), .str (Str.ofString "q") k1, .int 3329 v1⟩, ⟨PyData.keyHash w.params (Str.ofString "n"), .str (Str.ofString "n") k2, .int 256 v2⟩,
      ⟨PyData.keyHash w.params (Str.ofString "ntt_zetas"), .str (Str.ofString "ntt_zetas") k3, .ref z⟩, ⟨PyData.keyHash w.params (Str.ofString "ntt_f"), .str (Str.ofString "ntt_f") k4, .int 3303 v4⟩] 4) :: own) →
    Q (.ref p) { s with heap := h', toks := tk' }) :
  wpAny (model PySem.Challenge.rw_yi0046_01.row.prog w) (callerA.deeper (envOf (Str.ofString "law") S_13 L fa ccd)) (call (.ref (nat_lit 423)) [.ref f1, .ref f2]) Q E s := by
  revert X
  k_fill
  intro X
  w_on
  k_steps
  refine ⟨?_⟩
  rename Fr _ _ _ _ => lF'
  rename News _ _ _ _ => lN'
  rename IsRange _ _ _ _ _ _ _ _ => rgX
  rename _ ∧ _ ∧ _ ∧ _ ∧ _ ∧ _ ∧ _ ∧ _ ∧ _ ∧ _ ∧ AllLt _ own => hlt
  refine' kst_range (fun c : List Value × List Int × Nat => (_, listOf c.1.toArray c.2.2) :: _) (fun c => []) (fun c => IntsAre c.1 c.2.1) [Str.ofString "r0", Str.ofString "r1", Str.ofString "r2", Str.ofString "r3"] (fun pre c => c.2.1 = pmul ns ms zns pre.length) (([], [], _)) (by rfl) rgX (by decide) (by rfl) lF' lN' .nil ?kb rfl ?kt ?kd
  case kb => exact List.forall_mem_nil _
  case kt =>
    clear lF' lN'
    rintro ⟨vs2, ns2, cn⟩ pre k t2 u2 h2 tk2 own2 hk2 hlt2 off2 hf2 e2 F3 N3
    dsimp only [kstB] at e2 F3 N3 hf2
    simp only [List.cons_append] at N3
    rw [Int.zero_add] at hk2
    subst hk2
    have hlt3 : pre.length < 64 := hlt2
    have hl2 : ns2.length = 4 * pre.length := by rw [e2, pmul_len]
    have n0 := hnb (4 * (pre.length : Int) + 0).toNat
    have n1 := hnb (4 * (pre.length : Int) + 1).toNat
    have n2 := hnb (4 * (pre.length : Int) + 2).toNat
    have n3 := hnb (4 * (pre.length : Int) + 3).toNat
    have m0 := hmb (4 * (pre.length : Int) + 0).toNat
    have m1 := hmb (4 * (pre.length : Int) + 1).toNat
    have m2 := hmb (4 * (pre.length : Int) + 2).toNat
    have m3 := hmb (4 * (pre.length : Int) + 3).toNat
    have z0 := hzb (64 + (pre.length : Int)).toNat
    have offD := off_app (off_lt hlt.2.2.2.2.2.2.2.2.2.2) (off_sub off2 (l' := [_]) (by intro b hb; rw [List.mem_singleton.mp hb]; exact .head _))
    have hvl : vs2.length = 4 * pre.length := by rw [hf2.length, hl2]
    clear off2 hlt2
    k_steps
    refine ⟨?_⟩
    refine' iadd_list (its2 := [_, _, _, _]) ?kF ?kN ?kM (Nat.succ_ne_zero 3) ?kU ?kz ?_
    case kF => k_asm
    case kN => k_asm
    case kM => k_mem
    case kU => k_upd
    case kz => dsimp only [List.length_cons, List.length_nil]; omega
    intro h' F' N'
    k_steps
    refine' kst_end (vs2 ++ [_, _, _, _], ns2 ++ pquad ns ms zns (pre.length : Int), _) (by assumption) (by assumption) (by kst_in) (by intro p hp; kst_mem) (by rfl) ?hf6 ?ka6 ?kr6 ?q6
    case hf6 => exact ints_app hf2 (.cons _ _ (.cons _ _ (.cons _ _ (.cons _ _ .nil))))
    case ka6 => exact List.forall_mem_nil _
    case kr6 =>
      intro z h1 h2 h3
      by_cases hz : z = Str.ofString "new_coeffs"
      · subst hz; with_unfolding_all rfl
      · simp only [List.contains_cons, List.contains_nil, Bool.or_false, Bool.or_eq_false_iff, beq_eq_false_iff_ne, ne_eq] at h3
        simp [h1, h3, hz]
    case q6 =>
      rw [List.length_append]
      show _ = pmul ns ms zns (pre.length + 1)
      rw [pmul, ← e2]
  case kd =>
    clear lF' lN'
    rintro ⟨vs2, ns2, cn⟩ u2 h2 tk2 hf2 e2 F3 N3
    dsimp only [kstB] at e2 F3 N3 hf2
    have e3 : ns2 = pmul ns ms zns 64 := by rw [e2, rangeKs_length]
    have hl2 : ns2.length = 256 := by rw [e3, pmul_len]
    clear e2
    k_steps
    rename News _ _ _ _ => kN
    dsimp only at kN
    exact ret _ _ _ _ _ _ _ _ _ _ hf2 e3 (by refine ⟨?_, ?_, ?_, ?_, ?_⟩ <;> omega) hlt.2.2.2.2.2.2.2.2.2.2 (by assumption) (news_7 kN)
end Mine
namespace Mine
open PySem PySem.W PyProof.Rows PySem.Spec PySem.Calls
set_option maxRecDepth 100000
set_option maxHeartbeats 4000000
local macro_rules | `(tactic| walk_at "pyIter ref") => `(tactic| ((with_reducible show wpAny _ _ (pyIter (Value.ref _)) _ _ _); refine Hold.out ?_))
local macro_rules | `(tactic| walk_at "exec While Compare cons nil") => `(tactic| (refine Hold.out ?_))
local macro_rules | `(tactic| walk_at "callWith ref") => `(tactic| (k_here; k_dflt (refine' inst_kw ?k1 ?k2 ?k3 ?k4 ?_; (case k1 => k_in); (case k2 => k_inst); (case k3 => rfl); (case k4 => rfl); k_whole)))
theorem news_8 {h₀ h : Heap} {L : Addr} {a b c z p dp x dx : Addr × Obj} {r : List (Addr × Obj)} (N : News h₀ L h (a :: b :: c :: z :: p :: dp :: x :: dx :: r)) : News h₀ L h (a :: b :: c :: r) := fun q hq => N q (by
  rcases List.mem_cons.mp hq with e | hq
  · rw [e]; exact .head _
  rcases List.mem_cons.mp hq with e | hq
  · rw [e]; exact .tail _ (.head _)
  rcases List.mem_cons.mp hq with e | hq
  · rw [e]; exact .tail _ (.tail _ (.head _))
  exact .tail _ (.tail _ (.tail _ (.tail _ (.tail _ (.tail _ (.tail _ (.tail _ hq))))))))
theorem from_call (w : World) (mean : ExcName → Option Value) (mg mb : Str → Option Value) (fa : Addr) (ccd : Value) (base h₀ : Heap) (L : Addr) (m : Str → Option Value) (s : Shared) (Q E : Value → Shared → Prop)
  (B : Below callerA base [] h₀) (F : Fr h₀ L s.heap m) (X : (K w.params).In h₀)
  (D z p dp x dx : Addr) (own : List (Addr × Obj)) (vs zvs : List Value) (ns zns : List Int) (dn zk : Nat) (a1 a2 k1 v1 k2 v2 k3 k4 v4 : Tok)
  (N : News h₀ L s.heap ((D, listOf vs.toArray dn) :: (z, listOf zvs.toArray zk) :: (p, instObj (nat_lit 426) dp) ::
    (dp, dictOf [⟨PyData.keyHash w.params (Str.ofString "parent"), .str (Str.ofString "parent") a1, .ref x⟩, ⟨PyData.keyHash w.params (Str.ofString "coeffs"), .str (Str.ofString "coeffs") a2, .ref D⟩] 2) ::
    (x, instObj (nat_lit 282) dx) :: (dx, dictOf [⟨PyData.keyHash w.params (Str.ofString "q"), .str (Str.ofString "q") k1, .int 3329 v1⟩, ⟨PyData.keyHash w.params (Str.ofString "n"), .str (Str.ofString "n") k2, .int 256 v2⟩,
      ⟨PyData.keyHash w.params (Str.ofString "ntt_zetas"), .str (Str.ofString "ntt_zetas") k3, .ref z⟩, ⟨PyData.keyHash w.params (Str.ofString "ntt_f"), .str (Str.ofString "ntt_f") k4, .int 3303 v4⟩] 4) :: own))
  (off : OwnOff own [D]) (hneD : @Ne Nat D z ∧ @Ne Nat D p ∧ @Ne Nat D dp ∧ @Ne Nat D x ∧ @Ne Nat D dx)
  (hi : IntsAre vs ns) (hlen : ns.length = 256) (hz : IntsAre zvs zns) (hzl : zns.length = 128) (hzb : ∀ n : Nat, 0 ≤ zns.getD n 0 ∧ zns.getD n 0 < 3329)
  (T : Top q (looseW q loose) mean mg mb h₀)
  (ret : ∀ (p2 dp2 : Addr) (vs2 : List Value) (ns2 : List Int) (b1 b2 : Tok) (h' : Heap) (tk' : Nat), IntsAre vs2 ns2 → ns2 = floop (layers zns ns 7) 256 → Fr h₀ L h' m →
    News h₀ L h' ((p2, instObj (nat_lit 350) dp2) :: (dp2, dictOf [⟨PyData.keyHash w.params (Str.ofString "parent"), .str (Str.ofString "parent") b1, .ref x⟩, ⟨PyData.keyHash w.params (Str.ofString "coeffs"), .str (Str.ofString "coeffs") b2, .ref D⟩] 2) ::
      (D, listOf vs2.toArray dn) :: own) →
    Q (.ref p2) { s with heap := h', toks := tk' }) :
  wpAny (model PySem.Challenge.rw_yi0046_01.row.prog w) (callerA.deeper (envOf (Str.ofString "law") S_13 L fa ccd)) (call (.ref (nat_lit 380)) [.ref p]) Q E s := by
  revert X
  k_fill
  intro X
  w_on
  k_steps
  refine ⟨?_⟩
  rename Fr _ _ _ _ => lF'
  rename News _ _ _ _ => lN'
  refine' ksw_while (σ := Nat × ((Int × Tok) × (Int × Tok)) × (List Value × List Int)) (fun c => (D, listOf c.2.2.1.toArray dn) :: _) (fun c => [(Str.ofString "l", .int c.2.1.1.1 c.2.1.1.2), (Str.ofString "k", .int c.2.1.2.1 c.2.1.2.2)]) (fun c => IntsAre c.2.2.1 c.2.2.2)
    [Str.ofString "start", Str.ofString "zeta", Str.ofString "j", Str.ofString "t"] (fun c => c.1 ≤ 7 ∧ c.2.1.1.1 = ((2 ^ (c.1 + 1) : Nat) : Int) ∧ c.2.1.2.1 = ((2 ^ (7 - c.1) : Nat) : Int) - 1 ∧ c.2.2.2 = layers zns ns c.1) (fun c => 7 - c.1) (0, ((2, _), (128 - 1, _)), (vs, ns)) lF' (fun p hp => lN' p (.tail _ hp)) hi ?ka ⟨Nat.zero_le _, rfl, rfl, rfl⟩ ?kt ?hE
  case ka => kst_all
  case hE => passes_own
  clear lF' lN'
  rintro ⟨sN, ⟨⟨l, t1⟩, ⟨kk, t2⟩⟩, ⟨vs1, ns1⟩⟩ u h tk hInt1 ⟨hs7, hl, hkk, e1⟩ F2 N2
  dsimp only [kstB] at hInt1 hs7 hl hkk e1 F2 N2
  have hlen1 : ns1.length = 256 := by rw [e1, layers_len, hlen]
  have hcase := stage_cases sN hs7 l kk hl hkk
  rcases hcase with ⟨h71, h72⟩ | ⟨h61, hl1, hl2, nb, hnb, hnb1, hnb2, hkn, hln, hl3, hk3⟩
  · k_steps
    refine ⟨?_⟩
    rename Fr _ _ _ _ => lF'
    rename News _ _ _ _ => lN'
    rename IsRange _ _ _ _ _ _ _ _ => rgX
    rename IntsAre vs1 ns1 => hInt1
    refine' kst_range (fun c : List Value × List Int => (_, listOf c.1.toArray dn) :: _) (fun c => []) (fun c => IntsAre c.1 c.2) [] (fun pre r => r.2 = floop ns1 pre.length) (_, _) (by rfl) rgX (by decide) (by rfl) lF' lN' hInt1 ?kb rfl ?kt1 ?kd1
    case kb => exact List.forall_mem_nil _
    case kt1 =>
      clear lF' lN'
      rintro ⟨vs2, ns2⟩ pre k t2 u2 h2 tk2 own2 hk2 hlt2 off2 hf2 e2 F3 N3
      dsimp only [kstB, List.contains_nil] at e2 F3 N3 hf2
      simp only [Bool.false_eq_true, if_false] at F3
      simp only [List.cons_append] at N3
      rw [Int.zero_add] at hk2
      subst hk2
      have hlt3 : pre.length < 256 := hlt2
      have offD := off_app off (off_sub off2 (l' := [D]) (by intro b hb; rw [List.mem_singleton.mp hb]; exact .head _))
      have hlr : ns2.length = 256 := by rw [e2, floop_len, hlen1]
      clear off2 hlt2
      k_steps
    case kd1 =>
      clear lF' lN'
      rintro ⟨vs2, ns2⟩ u2 h2 tk2 hf2 e2 F3 N3
      dsimp only [kstB, List.contains_nil] at e2 F3 N3 hf2
      simp only [Bool.false_eq_true, if_false] at F3
      have hlr : ns2.length = 256 := by rw [e2, floop_len, hlen1]
      have e3 : ns2 = floop ns1 256 := by rw [e2, rangeKs_length]
      clear e2
      k_steps
      rename News _ _ _ _ => kN
      dsimp only at kN
      have e4 : ns2 = floop (layers zns ns 7) 256 := by rw [e3, e1, h71]
      exact ret _ _ _ _ _ _ _ _ hf2 e4 (by assumption) (news_8 kN)
  · k_steps
    refine ⟨?_⟩
    rename Fr _ _ _ _ => lF'
    rename News _ _ _ _ => lN'
    refine' ksw_while (σ := Nat × ((Int × Tok) × (Int × Tok)) × (List Value × List Int)) (fun c => (D, listOf c.2.2.1.toArray dn) :: _) (fun c => [(Str.ofString "start", .int c.2.1.1.1 c.2.1.1.2), (Str.ofString "k", .int c.2.1.2.1 c.2.1.2.2)]) (fun c => IntsAre c.2.2.1 c.2.2.2)
      [Str.ofString "zeta", Str.ofString "j", Str.ofString "t"] (fun c => c.1 ≤ nb ∧ c.2.1.1.1 = 2 * l * (c.1 : Int) ∧ c.2.1.2.1 = kk - (c.1 : Int) ∧ c.2.2.2 = blocks zns l kk ns1 c.1) (fun c => nb - c.1) (0, ((0, _), (kk, _)), (vs1, ns1)) lF' lN' hInt1 ?kb2 ⟨Nat.zero_le _, (Int.mul_zero _).symm, (Int.sub_zero _).symm, rfl⟩ ?kt2 ?hE2
    case kb2 => kst_all
    case hE2 => passes_own
    clear lF' lN'
    rintro ⟨b, ⟨⟨st, t5⟩, ⟨kb, t6⟩⟩, ⟨vs2, ns2⟩⟩ u2 h2 tk2 hInt2 ⟨hb7, hst, hkb, e2⟩ F3 N3
    dsimp only [kstB] at hInt2 hb7 hst hkb e2 F3 N3
    have hlen2 : ns2.length = 256 := by rw [e2, blocks_len, hlen1]
    have hcase : (b < nb ∧ st + 2 * l ≤ 256 ∧ 0 ≤ st) ∨ (b = nb ∧ st = 256) := by
      rw [hst]
      rcases Nat.lt_or_ge b nb with hlt | hge
      · refine .inl ⟨hlt, ?_, Int.mul_nonneg (by omega) (by omega)⟩
        have h1 : 2 * l * ((b : Int) + 1) ≤ 2 * l * (nb : Int) := Int.mul_le_mul_of_nonneg_left (by omega) (by omega)
        rw [Int.mul_add] at h1
        omega
      · have : b = nb := by omega
        exact .inr ⟨this, by rw [this]; exact hln⟩
    rcases hcase with ⟨hb1, hb2, hb3⟩ | ⟨hb1, hb2⟩
    · have hzb1 := (hzb kb.toNat).1
      have hzb2 := (hzb kb.toNat).2
      k_steps
      refine ⟨?_⟩
      rename Fr _ _ _ _ => lF'
      rename News _ _ _ _ => lN'
      rename IsRange _ _ _ _ _ _ _ _ => rgX
      rename IntsAre vs2 ns2 => hInt2
      refine' my_range (σ := (Int × Tok) × (List Value × List Int)) (fun c => (D, listOf c.2.1.toArray dn) :: _) (fun c => [(Str.ofString "j", .int c.1.1 c.1.2)]) (fun c => IntsAre c.2.1 c.2.2) [Str.ofString "t"]
        (fun pre c => (0 < pre.length → c.1.1 = st + (pre.length : Int) - 1) ∧ c.2.2 = bloop (zns.getD kb.toNat 0) l st ns2 pre.length) ((st, _), (vs2, ns2)) (by rfl) rgX (small_one (by omega) (by omega) (by omega) (by omega)) (rangeSize_nat _ _) lF' lN' hInt2 ?kb3 ⟨fun h => absurd h (Nat.lt_irrefl 0), rfl⟩ (fun c => ⟨_, .head _, rfl⟩) ?kt3 ?kd3
      case kb3 => kst_all
      case kt3 =>
        clear lF' lN'
        rintro ⟨⟨jv, t7⟩, ⟨vs3, ns3⟩⟩ pre k t8 u3 h3 tk3 own3 hk4 hlt4 off3 hInt3 ⟨hj3, e3⟩ F4 N4
        dsimp only [kstB] at hInt3 hj3 e3 F4 N4
        simp only [List.cons_append] at N4
        have hlen3 : ns3.length = 256 := by rw [e3, bloop_len, hlen2]
        have hlt5 : (pre.length : Int) < l := by omega
        have offD := off_app off (off_sub off3 (l' := [D]) (by intro b hb; rw [List.mem_singleton.mp hb]; exact .head _))
        clear off3 hlt4 hj3
        subst hk4
        k_steps
        refine' kst_end ((st + (pre.length : Int), _), (_, _)) (by assumption) (by assumption) (by kst_in) (by intro p hp; kst_mem) (by rfl) ?hf6 ?ka6 ?kr6 ⟨?p6, ?q6⟩
        case hf6 => assumption
        case ka6 => kst_all
        case kr6 => kst_same
        case p6 => intro _; rw [List.length_append]; dsimp only [List.length_cons, List.length_nil]; omega
        case q6 =>
          rw [List.length_append]
          show _ = bloop _ _ _ _ (pre.length + 1)
          rw [bloop, ← e3]
          rfl
      case kd3 =>
        clear lF' lN'
        rintro ⟨⟨jv, t7⟩, ⟨vs3, ns3⟩⟩ u3 h3 tk3 hInt3 ⟨hj3, e3⟩ F4 N4
        dsimp only [kstB] at hInt3 hj3 e3 F4 N4
        rw [rangeKs_length] at hj3 e3
        have hnl : (st + l - st).toNat = l.toNat := by rw [show st + l - st = l by omega]
        rw [hnl] at hj3 e3
        have hj4 : jv = st + l - 1 := by have := hj3 (by omega); omega
        clear hj3
        subst hj4
        k_steps
        refine' ksw_end (b + 1, ((_, _), (_, _)), (_, ns3)) (by assumption) (by assumption) (by kst_in) hInt3 ?ka4 ?kr4 ⟨by omega, ?_, ?_, ?_⟩ (by dsimp only; omega)
        case ka4 => kst_all
        case kr4 => ksw_same
        · show st + l - 1 + l + 1 = 2 * l * ((b + 1 : Nat) : Int)
          rw [show ((b + 1 : Nat) : Int) = (b : Int) + 1 by omega, Int.mul_add, ← hst, Int.mul_one]
          omega
        · show kb - 1 = kk - ((b + 1 : Nat) : Int)
          omega
        · show ns3 = blocks zns l kk ns1 (b + 1)
          rw [blocks, ← hkb, ← hst, ← e2]
          exact e3
    · k_steps
      refine' ksw_end (sN + 1, ((_, _), (_, _)), (_, ns2)) (by assumption) (by assumption) (by kst_in) hInt2 ?ka5 ?kr5 ⟨by omega, ?_, ?_, ?_⟩ (by dsimp only; omega)
      case ka5 => kst_all
      case kr5 => ksw_same
      · show l * 2 ^ Int.toNat 1 = ((2 ^ (sN + 1 + 1) : Nat) : Int)
        rw [show (2 : Int) ^ Int.toNat 1 = 2 from rfl]
        exact hl3
      · show kb = ((2 ^ (7 - (sN + 1)) : Nat) : Int) - 1
        rw [hkb, hb1]
        exact hk3
      · show ns2 = layers zns ns (sN + 1)
        rw [layers, ← hl, ← hkk, ← e1, ← hnb, ← hb1]
        exact e2
end Mine
namespace Mine
open PySem PySem.W PyProof.Rows PySem.Spec PySem.Calls
set_option maxRecDepth 100000
theorem flat0 : (List.replicate (Int.toNat 256) [(0 : Int)]).flatten = List.replicate 256 0 := by
  rw [show Int.toNat 256 = 256 from rfl]; exact List.flatten_replicate_singleton
theorem zet_all : (zet.all fun x => decide (0 ≤ x) && decide (x < 3329)) = true := by decide +kernel
theorem zet_len : zet.length = 128 := by rw [zet, List.length_map, List.length_range]
theorem getD_all {l : List Int} (h : ∀ x ∈ l, 0 ≤ x ∧ x < 3329) (n : Nat) : 0 ≤ l.getD n 0 ∧ l.getD n 0 < 3329 := by
  rw [List.getD_eq_getElem?_getD]
  cases e : l[n]? with
  | none => exact ⟨by decide, by decide⟩
  | some x => exact h x (List.mem_of_getElem? e)
theorem zet_bound (n : Nat) : 0 ≤ zet.getD n 0 ∧ zet.getD n 0 < 3329 := getD_all (fun x hx => by
  have := List.all_eq_true.mp zet_all x hx
  simpa using this) n
theorem trow_all (rns : List Int) (d c : Int) (n : Nat) : ∀ x ∈ trow rns d c n, 0 ≤ x ∧ x < 3329 := by
  induction n with
  | zero =>
    intro x hx
    rw [trow] at hx
    rw [List.eq_of_mem_replicate hx]
    exact ⟨by decide, by decide⟩
  | succ n ih =>
    intro x hx
    rw [trow] at hx
    rcases List.mem_or_eq_of_mem_set hx with h | h
    · exact ih x h
    · rw [h]; exact ⟨fmod_lo _ (by decide), fmod_hi _ (by decide)⟩
theorem trow_bound (rns : List Int) (d c : Int) (n k : Nat) : 0 ≤ (trow rns d c n).getD k 0 ∧ (trow rns d c n).getD k 0 < 3329 := getD_all (trow_all rns d c n) k
def RT : List Int := List.map (fun k' => rt k') (rangeKs 0 (128 - 0 : Int).toNat)
def PlainLaw : Prop := ∀ d e a b : Int, 0 ≤ d → d < 256 → 0 ≤ e → e < 256 →
  floop (layers zet (pmul (trow RT d a 128) (trow RT e b 128) zet 64) 7) 256 = if d + e < 256 then (List.replicate 256 0).set (d + e).toNat ((a * b).fmod 3329) else (List.replicate 256 0).set (d + e - 256).toNat ((0 - a * b).fmod 3329)
end Mine
namespace Mine
open PySem PySem.W PyProof.Rows PySem.Spec PySem.Calls
set_option maxRecDepth 100000
set_option maxHeartbeats 4000000
local macro_rules | `(tactic| walk_at "call ref") => `(tactic| ((first | (with_reducible show wpAny _ _ (call (Value.ref (nat_lit 423)) _) _ _ _) | (with_reducible show wpAny _ _ (call (Value.ref (nat_lit 380)) _) _ _ _)); refine Hold.out ?_))
theorem fin (w : World) (mean : ExcName → Option Value) (mg mb : Str → Option Value) (fa : Addr) (ccd : Value) (base h₀ : Heap) (L : Addr) (m₀ : Str → Option Value) (s : Shared) (Q : Flow → Shared → Prop) (E : Value → Shared → Prop)
  (B : Below callerA base [] h₀) (X : (K w.params).In h₀)
  (f1 d1 D1 f2 d2 D2 z x dx du : Addr) (vs ws zvs dvs : List Value) (ns ms zns dns : List Int) (zk dn : Nat) (a1 a2 b1 b2 k1 v1 k2 v2 k3 k4 v4 : Tok)
  (F : Fr h₀ L s.heap (fun y => if y = Str.ofString "due" then some (.ref du) else if y = Str.ofString "second" then some (.ref f2) else if y = Str.ofString "first" then some (.ref f1) else m₀ y))
  (N : News h₀ L s.heap ((f1, instObj (nat_lit 426) d1) ::
    (d1, dictOf [⟨PyData.keyHash w.params (Str.ofString "parent"), .str (Str.ofString "parent") a1, .ref x⟩, ⟨PyData.keyHash w.params (Str.ofString "coeffs"), .str (Str.ofString "coeffs") a2, .ref D1⟩] 2) ::
    (f2, instObj (nat_lit 426) d2) ::
    (d2, dictOf [⟨PyData.keyHash w.params (Str.ofString "parent"), .str (Str.ofString "parent") b1, .ref x⟩, ⟨PyData.keyHash w.params (Str.ofString "coeffs"), .str (Str.ofString "coeffs") b2, .ref D2⟩] 2) ::
    (D1, listOf vs.toArray 0) :: (D2, listOf ws.toArray 0) :: (z, listOf zvs.toArray zk) ::
    (x, instObj (nat_lit 282) dx) :: (dx, dictOf [⟨PyData.keyHash w.params (Str.ofString "q"), .str (Str.ofString "q") k1, .int 3329 v1⟩, ⟨PyData.keyHash w.params (Str.ofString "n"), .str (Str.ofString "n") k2, .int 256 v2⟩,
      ⟨PyData.keyHash w.params (Str.ofString "ntt_zetas"), .str (Str.ofString "ntt_zetas") k3, .ref z⟩, ⟨PyData.keyHash w.params (Str.ofString "ntt_f"), .str (Str.ofString "ntt_f") k4, .int 3303 v4⟩] 4) :: [(du, listOf dvs.toArray dn)]))
  (hi : IntsAre vs ns) (hlen : ns.length = 256) (hj : IntsAre ws ms) (hlen2 : ms.length = 256) (hz : IntsAre zvs zns) (hzl : zns.length = 128) (hdu : IntsAre dvs dns)
  (hnb : ∀ n : Nat, 0 ≤ ns.getD n 0 ∧ ns.getD n 0 < 3329) (hmb : ∀ n : Nat, 0 ≤ ms.getD n 0 ∧ ms.getD n 0 < 3329) (hzb : ∀ n : Nat, 0 ≤ zns.getD n 0 ∧ zns.getD n 0 < 3329)
  (T : Top q (looseW q loose) mean mg mb h₀)
  (heq : floop (layers zns (pmul ns ms zns 64) 7) 256 = dns)
  (hQ : ∀ (h' : Heap) (tk' : Nat) (m' : Str → Option Value), Fr h₀ L h' m' → Q (.ret (.bool true)) { s with heap := h', toks := tk' }) :
  wpAny (model PySem.Challenge.rw_yi0046_01.row.prog w) (callerA.deeper (envOf (Str.ofString "law") S_13 L fa ccd)) (execs (List.drop 10 B_13) (envOf (Str.ofString "law") S_13 L fa ccd)) Q E s := by
  revert X
  k_fill
  intro X
  w_on
  dsimp only [B_13, List.drop]
  k_steps
  refine ⟨?_⟩
  refine' mul_call _ _ _ _ _ _ _ _ _ _ _ _ _ B F X _ _ _ _ _ _ _ _ _ _ _ _ _ _ _ _ _ _ _ _ _ _ _ _ _ _ _ _ N hi hlen hj hlen2 hz hzl hnb hmb hzb T ?_
  intro p dp D vs1 ns1 dk t1 t2 g1 tk1 hI1 e1 hn1 al1 F1 N1
  have hl1 : ns1.length = 256 := by rw [e1, pmul_len]
  clear F N
  refine' method_inst ?k1 ?k2 ?k3 ?k4 ?k5 ?k6 ?k7 ?_
  case k1 => k_asm
  case k2 => k_asm
  case k3 => k_inst
  case k4 => k_is
  case k5 => k_is
  case k6 => k_is
  case k7 => k_get
  k_steps
  refine ⟨?_⟩
  refine' from_call _ _ _ _ _ _ _ _ _ _ _ _ _ B F1 X _ _ _ _ _ _ _ _ _ _ _ _ _ _ _ _ _ _ _ _ _ _ N1 (off_lt al1) hn1 hI1 hl1 hz hzl hzb T ?_
  intro p2 dp2 vs2 ns2 c1 c2 g2 tk2 hI2 e2 F2 N2
  rw [e1, heq] at e2
  clear F1 N1
  k_steps
  rw [decide_eq_true e2]
  exact hQ _ _ _ (by assumption)
end Mine
namespace Mine
open PySem PySem.W PyProof.Rows PySem.Spec PySem.Calls
set_option maxRecDepth 100000
set_option maxHeartbeats 4000000
local macro_rules | `(tactic| walk_at "callWith ref") => `(tactic| (k_here; k_dflt (refine' inst_kw ?k1 ?k2 ?k3 ?k4 ?_; (case k1 => k_in); (case k2 => k_inst); (case k3 => rfl); (case k4 => rfl); k_whole)))
local macro_rules | `(tactic| walk_at "call ref") => `(tactic| ((first | (with_reducible show wpAny _ _ (call (Value.ref (nat_lit 440)) _) _ _ _) | (with_reducible show wpAny _ _ (call (Value.ref (nat_lit 282)) _) _ _ _) | (with_reducible show wpAny _ _ (call (Value.ref (nat_lit 454)) _) _ _ _) | (with_reducible show wpAny _ _ (call (Value.ref _) _ (List.zip _ _)) _ _ _)); refine Hold.out ?_))
local macro_rules | `(tactic| walk_at "execs cons") => `(tactic| ((with_reducible show wpAny _ _ (execs [Stmt.Return (some (Expr.Compare _ _ _ _)) _] _) _ _ _); refine Hold.out ?_))
local macro_rules | `(tactic| walk_at "subscriptTail") => `(tactic| ((with_reducible show wpAny _ _ (subscriptTail (PySem.Expr.List _ _) _ (Value.ref _) (Value.int _ _)) _ _ _); refine Hold.out ?_))
local macro_rules | `(tactic| walk_at "call ref") => `(tactic| (k_here; (with_reducible show wpAny _ _ (call (Value.ref (nat_lit 447)) _) _ _ _); k_dflt (refine' root_call _ _ _ _ _ _ _ _ _ _ _ _ _ _ _ _ _ _ _ _ _ ?kB ?kF ?kX _ ?kN ?kT ?kK _ _ ?kd ?ku ?_; (case kB => k_asm); (case kF => k_asm); (case kX => k_asm); (case kN => k_asm); (case kT => k_asm); (case kK => exact rfl); (case kd => exact Nat.le_of_ble_eq_true rfl); (case ku => exact Nat.le_of_ble_eq_true rfl)); intro t' h' tk' F' N'))
theorem news_rot {h₀ h : Heap} {L : Addr} {x d z s c : Addr × Obj} (N : News h₀ L h [x, d, z, s, c]) : News h₀ L h [s, c, x, d, z] := fun q hq => N q (by
  simp only [List.mem_cons] at hq ⊢
  rcases hq with e | e | e | e | e | e <;> simp only [e, true_or, or_true])
theorem news_mv {h₀ h : Heap} {L : Addr} {l x d z s c : Addr × Obj} (N : News h₀ L h [l, s, c, x, d, z]) : News h₀ L h [s, c, l, x, d, z] := fun q hq => N q (by
  simp only [List.mem_cons] at hq ⊢
  rcases hq with e | e | e | e | e | e | e <;> simp only [e, true_or, or_true])
theorem news_drop {h₀ h : Heap} {L : Addr} {l x d z s c : Addr × Obj} (N : News h₀ L h [s, c, l, x, d, z]) : News h₀ L h [s, c, x, d, z] := fun q hq => N q (by
  simp only [List.mem_cons] at hq ⊢
  rcases hq with e | e | e | e | e | e <;> simp only [e, true_or, or_true])
theorem news_r1 {h₀ h : Heap} {L : Addr} {r t s c x d z : Addr × Obj} (N : News h₀ L h [r, t, s, c, x, d, z]) : News h₀ L h [r, x, d, z] := fun q hq => N q (by
  simp only [List.mem_cons] at hq ⊢
  rcases hq with e | e | e | e | e <;> simp only [e, true_or, or_true])
theorem news_r2 {h₀ h : Heap} {L : Addr} {D r x d z : Addr × Obj} (N : News h₀ L h [D, r, x, d, z]) : News h₀ L h [D, x, d, r, z] := fun q hq => N q (by
  simp only [List.mem_cons] at hq ⊢
  rcases hq with e | e | e | e | e | e <;> simp only [e, true_or, or_true])
theorem news_r3 {h₀ h : Heap} {L : Addr} {f e D x d r z : Addr × Obj} (N : News h₀ L h [f, e, D, x, d, r, z]) : News h₀ L h [r, f, e, D, x, d, z] := fun q hq => N q (by
  simp only [List.mem_cons] at hq ⊢
  rcases hq with e | e | e | e | e | e | e | e <;> simp only [e, true_or, or_true])
theorem news_r4 {h₀ h : Heap} {L : Addr} {D2 r f e D x d z : Addr × Obj} (N : News h₀ L h [D2, r, f, e, D, x, d, z]) : News h₀ L h [D2, x, d, r, f, e, D, z] := fun q hq => N q (by
  simp only [List.mem_cons] at hq ⊢
  rcases hq with e | e | e | e | e | e | e | e | e <;> simp only [e, true_or, or_true])
theorem news_r5 {h₀ h : Heap} {L : Addr} {du l0 f2 d2 D2 x dx r f1 d1 D1 z : Addr × Obj} (N : News h₀ L h [du, l0, f2, d2, D2, x, dx, r, f1, d1, D1, z]) : News h₀ L h [f1, d1, f2, d2, D1, D2, z, x, dx, du] := fun q hq => N q (by
  simp only [List.mem_cons] at hq ⊢
  rcases hq with e | e | e | e | e | e | e | e | e | e | e <;> simp only [e, true_or, or_true])
theorem pick4 (p q x y i : Int) (hp : 0 ≤ p ∧ p < 256) (hq : 0 ≤ q ∧ q < 256) (hx : 0 ≤ x ∧ x < 256) (hy : 0 ≤ y ∧ y < 256) (h0 : 0 ≤ i) (h1 : i < 4) : 0 ≤ ([p, q, x, y] : List Int).getD i.toNat 0 ∧ ([p, q, x, y] : List Int).getD i.toNat 0 < 256 := by
  have h : i = 0 ∨ i = 1 ∨ i = 2 ∨ i = 3 := by omega
  rcases h with rfl | rfl | rfl | rfl
  · exact hp
  · exact hq
  · exact hx
  · exact hy
theorem rest (plain : PlainLaw) (w : World) (mean : ExcName → Option Value) (mg mb : Str → Option Value) (fa : Addr) (ccd : Value) (base h₀ : Heap) (L : Addr) (m₀ : Str → Option Value) (s : Shared) (Q : Flow → Shared → Prop) (E : Value → Shared → Prop)
  (B : Below callerA base [] h₀) (X : (K w.params).In h₀) (st c : Addr) (vs : List Value) (ns : List Int) (k : Nat) (t : Tok)
  (F : Fr h₀ L s.heap (fun y => if y = Str.ofString "state" then some (.ref st) else m₀ y))
  (N : News h₀ L s.heap [(st, listOf #[.int 0 t, .ref c] 0), (c, listOf vs.toArray k)]) (hne : @Ne Nat st c)
  (hi : IntsAre vs ns) (hpos : 0 < ns.length) (hlen : ns.length < 64) (hnn : ∀ x ∈ ns, 0 ≤ x)
  (T : Top q (looseW q loose) mean mg mb h₀)
  (hQ : ∀ (h' : Heap) (tk' : Nat) (m' : Str → Option Value), Fr h₀ L h' m' → Q (.ret (.bool true)) { s with heap := h', toks := tk' }) :
  wpAny (model PySem.Challenge.rw_yi0046_01.row.prog w) (callerA.deeper (envOf (Str.ofString "law") S_13 L fa ccd)) (execs (List.tail B_13) (envOf (Str.ofString "law") S_13 L fa ccd)) Q E s := by
  revert X
  k_fill
  intro X
  w_on
  dsimp only [B_13, List.tail]
  k_steps
  refine ⟨?_⟩
  refine ring_call _ _ _ _ _ _ _ _ _ _ _ _ _ B (by assumption) X _ _ _ _ N hne T ?_
  intro x dx z zvs zns zk k1 v1 k2 v2 k3 k4 v4 hR tkR hz hzet l1 l2 l3 FR NR
  clear F N
  k_steps
  refine ⟨?_⟩
  rename Fr _ _ _ _ => fA
  rename News _ _ _ _ => nA
  have nB := news_rot nA
  clear nA
  refine' take_call _ _ _ _ _ _ _ _ _ _ _ _ _ _ _ _ _ _ _ _ _ B fA X _ _ _ _ _ _ _ _ _ _ _ nB ?off1 hne T rfl hi (Int.le_refl 0) ?hk1 hpos hlen hnn (by decide) (by decide) (Nat.le_of_ble_eq_true rfl) (Nat.le_of_ble_eq_true rfl) ?ret1
  case off1 =>
    intro p hp b hb
    simp only [List.mem_cons, List.not_mem_nil, or_false] at hp hb
    rcases hp with rfl | rfl | rfl <;> rcases hb with rfl | rfl <;> k_ne
  case hk1 => omega
  clear nB fA
  intro x1 tx1 i1 ti1 vs1 ns1 g1 tk1 xl1 xh1 il1 ih1 hI1 hl1 hn1 F1 N1
  have hp1 : 0 < ns1.length := by omega
  have hq1 : ns1.length < 64 := by omega
  k_steps
  refine ⟨?_⟩
  rename Fr _ _ _ _ => fA
  rename News _ _ _ _ => nA
  have nB := nA
  clear nA
  refine' take_call _ _ _ _ _ _ _ _ _ _ _ _ _ _ _ _ _ _ _ _ _ B fA X _ _ _ _ _ _ _ _ _ _ _ nB ?off2 hne T rfl hI1 il1 ?hk2 hp1 hq1 hn1 (by decide) (by decide) (Nat.le_of_ble_eq_true rfl) (Nat.le_of_ble_eq_true rfl) ?ret2
  case off2 =>
    intro p hp b hb
    simp only [List.mem_cons, List.not_mem_nil, or_false] at hp hb
    rcases hp with rfl | rfl | rfl <;> rcases hb with rfl | rfl <;> k_ne
  case hk2 => omega
  clear nB fA
  intro x2 tx2 i2 ti2 vs2 ns2 g2 tk2 xl2 xh2 il2 ih2 hI2 hl2 hn2 F2 N2
  have hp2 : 0 < ns2.length := by omega
  have hq2 : ns2.length < 64 := by omega
  k_steps
  refine ⟨?_⟩
  rename Fr _ _ _ _ => fA
  rename News _ _ _ _ => nA
  have nB := news_mv nA
  clear nA
  refine' take_call _ _ _ _ _ _ _ _ _ _ _ _ _ _ _ _ _ _ _ _ _ B fA X _ _ _ _ _ _ _ _ _ _ _ nB ?off3 hne T rfl hI2 il2 ?hk3 hp2 hq2 hn2 (by decide) (by decide) (Nat.le_of_ble_eq_true rfl) (Nat.le_of_ble_eq_true rfl) ?ret3
  case off3 =>
    intro p hp b hb
    simp only [List.mem_cons, List.not_mem_nil, or_false] at hp hb
    rcases hp with rfl | rfl | rfl | rfl <;> rcases hb with rfl | rfl <;> k_ne
  case hk3 => omega
  clear nB fA
  intro x3 tx3 i3 ti3 vs3 ns3 g3 tk3 xl3 xh3 il3 ih3 hI3 hl3 hn3 F3 N3
  have hp3 : 0 < ns3.length := by omega
  have hq3 : ns3.length < 64 := by omega
  k_steps
  refine ⟨?_⟩
  refine' ksa_sub (vs := [.int 0 _, .int 255 _, .int x1 _, .int x2 _]) (ns := [0, 255, x1, x2]) ?k1one ?k2one (.cons _ _ (.cons _ _ (.cons _ _ (.cons _ _ .nil)))) xl3 ?k5one ?k6one ?k8one ?k7one
  case k1one => k_asm
  case k2one => k_mem
  case k5one => exact xh3
  case k6one => omega
  case k7one => with_unfolding_all rfl
  intro tSone
  have hSone := pick4 0 255 x1 x2 x3 (by decide) (by decide) ⟨xl1, xh1⟩ ⟨xl2, xh2⟩ xl3 xh3
  generalize ([0, 255, x1, x2] : List Int).getD x3.toNat 0 = one at hSone ⊢
  obtain ⟨one0, one1⟩ := hSone
  k_steps
  refine ⟨?_⟩
  rename Fr _ _ _ _ => fA
  rename News _ _ _ _ => nA
  have nB := news_drop nA
  clear nA
  refine' take_call _ _ _ _ _ _ _ _ _ _ _ _ _ _ _ _ _ _ _ _ _ B fA X _ _ _ _ _ _ _ _ _ _ _ nB ?off4 hne T rfl hI3 il3 ?hk4 hp3 hq3 hn3 (by decide) (by decide) (Nat.le_of_ble_eq_true rfl) (Nat.le_of_ble_eq_true rfl) ?ret4
  case off4 =>
    intro p hp b hb
    simp only [List.mem_cons, List.not_mem_nil, or_false] at hp hb
    rcases hp with rfl | rfl | rfl <;> rcases hb with rfl | rfl <;> k_ne
  case hk4 => omega
  clear nB fA
  intro x4 tx4 i4 ti4 vs4 ns4 g4 tk4 xl4 xh4 il4 ih4 hI4 hl4 hn4 F4 N4
  have hp4 : 0 < ns4.length := by omega
  have hq4 : ns4.length < 64 := by omega
  k_steps
  refine ⟨?_⟩
  rename Fr _ _ _ _ => fA
  rename News _ _ _ _ => nA
  have nB := nA
  clear nA
  refine' take_call _ _ _ _ _ _ _ _ _ _ _ _ _ _ _ _ _ _ _ _ _ B fA X _ _ _ _ _ _ _ _ _ _ _ nB ?off5 hne T rfl hI4 il4 ?hk5 hp4 hq4 hn4 (by decide) (by decide) (Nat.le_of_ble_eq_true rfl) (Nat.le_of_ble_eq_true rfl) ?ret5
  case off5 =>
    intro p hp b hb
    simp only [List.mem_cons, List.not_mem_nil, or_false] at hp hb
    rcases hp with rfl | rfl | rfl <;> rcases hb with rfl | rfl <;> k_ne
  case hk5 => omega
  clear nB fA
  intro x5 tx5 i5 ti5 vs5 ns5 g5 tk5 xl5 xh5 il5 ih5 hI5 hl5 hn5 F5 N5
  have hp5 : 0 < ns5.length := by omega
  have hq5 : ns5.length < 64 := by omega
  k_steps
  refine ⟨?_⟩
  rename Fr _ _ _ _ => fA
  rename News _ _ _ _ => nA
  have nB := news_mv nA
  clear nA
  refine' take_call _ _ _ _ _ _ _ _ _ _ _ _ _ _ _ _ _ _ _ _ _ B fA X _ _ _ _ _ _ _ _ _ _ _ nB ?off6 hne T rfl hI5 il5 ?hk6 hp5 hq5 hn5 (by decide) (by decide) (Nat.le_of_ble_eq_true rfl) (Nat.le_of_ble_eq_true rfl) ?ret6
  case off6 =>
    intro p hp b hb
    simp only [List.mem_cons, List.not_mem_nil, or_false] at hp hb
    rcases hp with rfl | rfl | rfl | rfl <;> rcases hb with rfl | rfl <;> k_ne
  case hk6 => omega
  clear nB fA
  intro x6 tx6 i6 ti6 vs6 ns6 g6 tk6 xl6 xh6 il6 ih6 hI6 hl6 hn6 F6 N6
  have hp6 : 0 < ns6.length := by omega
  have hq6 : ns6.length < 64 := by omega
  k_steps
  refine ⟨?_⟩
  refine' ksa_sub (vs := [.int 1 _, .int 255 _, .int x4 _, .int x5 _]) (ns := [1, 255, x4, x5]) ?k1two ?k2two (.cons _ _ (.cons _ _ (.cons _ _ (.cons _ _ .nil)))) xl6 ?k5two ?k6two ?k8two ?k7two
  case k1two => k_asm
  case k2two => k_mem
  case k5two => exact xh6
  case k6two => omega
  case k7two => with_unfolding_all rfl
  intro tStwo
  have hStwo := pick4 1 255 x4 x5 x6 (by decide) (by decide) ⟨xl4, xh4⟩ ⟨xl5, xh5⟩ xl6 xh6
  generalize ([1, 255, x4, x5] : List Int).getD x6.toNat 0 = two at hStwo ⊢
  obtain ⟨two0, two1⟩ := hStwo
  k_steps
  refine ⟨?_⟩
  rename Fr _ _ _ _ => fA
  rename News _ _ _ _ => nA
  have nB := news_drop nA
  clear nA
  refine' take_call _ _ _ _ _ _ _ _ _ _ _ _ _ _ _ _ _ _ _ _ _ B fA X _ _ _ _ _ _ _ _ _ _ _ nB ?off7 hne T rfl hI6 il6 ?hk7 hp6 hq6 hn6 (by decide) (by decide) (Nat.le_of_ble_eq_true rfl) (Nat.le_of_ble_eq_true rfl) ?ret7
  case off7 =>
    intro p hp b hb
    simp only [List.mem_cons, List.not_mem_nil, or_false] at hp hb
    rcases hp with rfl | rfl | rfl <;> rcases hb with rfl | rfl <;> k_ne
  case hk7 => omega
  clear nB fA
  intro x7 tx7 i7 ti7 vs7 ns7 g7 tk7 xl7 xh7 il7 ih7 hI7 hl7 hn7 F7 N7
  have hp7 : 0 < ns7.length := by omega
  have hq7 : ns7.length < 64 := by omega
  k_steps
  refine ⟨?_⟩
  rename Fr _ _ _ _ => fA
  rename News _ _ _ _ => nA
  have nB := nA
  clear nA
  refine' take_call _ _ _ _ _ _ _ _ _ _ _ _ _ _ _ _ _ _ _ _ _ B fA X _ _ _ _ _ _ _ _ _ _ _ nB ?off8 hne T rfl hI7 il7 ?hk8 hp7 hq7 hn7 (by decide) (by decide) (Nat.le_of_ble_eq_true rfl) (Nat.le_of_ble_eq_true rfl) ?ret8
  case off8 =>
    intro p hp b hb
    simp only [List.mem_cons, List.not_mem_nil, or_false] at hp hb
    rcases hp with rfl | rfl | rfl <;> rcases hb with rfl | rfl <;> k_ne
  case hk8 => omega
  clear nB fA
  intro x8 tx8 i8 ti8 vs8 ns8 g8 tk8 xl8 xh8 il8 ih8 hI8 hl8 hn8 F8 N8
  have hp8 : 0 < ns8.length := by omega
  have hq8 : ns8.length < 64 := by omega
  k_steps
  refine ⟨?_⟩
  rename Fr _ _ _ _ => fA
  rename News _ _ _ _ => nA
  rename IntsAre _ (List.map _ (rangeKs _ _)) => hRt
  rename _ ∧ _ ∧ _ ∧ _ ∧ _ ∧ _ => oR
  have nB := news_r1 nA
  clear nA
  obtain ⟨rns, hrns⟩ : ∃ rns, rns = List.map (fun k' => rt k') (rangeKs 0 (128 - 0 : Int).toNat) := ⟨_, rfl⟩
  rw [← hrns] at hRt
  have hrl : rns.length = 128 := by rw [hrns, List.length_map, rangeKs_length]; rfl
  refine' trans_call _ _ _ _ _ _ _ _ _ _ _ _ _ _ _ _ _ _ _ _ _ B fA X _ _ _ _ _ nB hRt hrl T rfl _ _ one0 one1 _ _ (Nat.le_of_ble_eq_true rfl) (Nat.le_of_ble_eq_true rfl) ?_
  intro D1 wsA nsA gA tkA ltA alA hIA eA FA NA
  simp only [AllLt, and_true] at alA
  clear fA nB
  have hlA : nsA.length = 256 := by rw [eA, trow_len]
  k_steps
  refine ⟨?_⟩
  rename Fr _ _ _ _ => fA
  rename News _ _ _ _ => nA
  have nB := news_r2 nA
  clear nA
  with_unfolding_all refine' poly_call _ _ _ _ _ _ _ _ _ _ _ _ _ B fA X _ _ _ _ _ _ _ _ _ _ _ _ _ _ nB hIA hlA T ?_
  intro f1 d1 a1 a2 gB tkB ltB alB FB NB
  simp only [AllLt, and_true] at alB
  clear fA nB
  k_steps
  refine ⟨?_⟩
  rename Fr _ _ _ _ => fA
  rename News _ _ _ _ => nA
  have nB := news_r3 nA
  clear nA
  refine' trans_call _ _ _ _ _ _ _ _ _ _ _ _ _ _ _ _ _ _ _ _ _ B fA X _ _ _ _ _ nB hRt hrl T rfl _ _ two0 two1 _ _ (Nat.le_of_ble_eq_true rfl) (Nat.le_of_ble_eq_true rfl) ?_
  intro D2 wsC nsC gC tkC ltC alC hIC eC FC NC
  simp only [AllLt, and_true] at alC
  have hlC : nsC.length = 256 := by rw [eC, trow_len]
  clear fA nB
  k_steps
  refine ⟨?_⟩
  rename Fr _ _ _ _ => fA
  rename News _ _ _ _ => nA
  have nB := news_r4 nA
  clear nA
  with_unfolding_all refine' poly_call _ _ _ _ _ _ _ _ _ _ _ _ _ B fA X _ _ _ _ _ _ _ _ _ _ _ _ _ _ nB hIC hlC T ?_
  intro f2 d2 b1 b2 gD tkD ltD alD FD ND
  simp only [AllLt, and_true] at alD
  clear fA nB
  k_steps
  · refine ⟨?_⟩
    rename Fr _ _ _ _ => fA
    rename News _ _ _ _ => nA
    rename IntsAre (List.set _ _ _) _ => hD
    refine' fin _ _ _ _ _ _ _ _ _ _ _ _ _ B X _ _ _ _ _ _ _ _ _ _ _ _ _ _ _ _ _ _ _ _ _ _ _ _ _ _ _ _ _ _ _ fA (news_r5 nA) hIA hlA hIC hlC hz ?kzl1 hD ?kn1 ?km1 ?kz1 T ?kq1 hQ
    case kzl1 => rw [hzet, zet_len]
    case kn1 => rw [eA]; exact trow_bound _ _ _ _
    case km1 => rw [eC]; exact trow_bound _ _ _ _
    case kz1 => rw [hzet]; exact zet_bound
    case kq1 =>
      have hP := plain one two (1 + x7) (1 + x8) one0 one1 two0 two1
      rw [if_pos (by omega)] at hP
      rw [flat0, eA, eC, hzet, hrns]
      exact hP
  · refine ⟨?_⟩
    rename Fr _ _ _ _ => fA
    rename News _ _ _ _ => nA
    rename IntsAre (List.set _ _ _) _ => hD
    refine' fin _ _ _ _ _ _ _ _ _ _ _ _ _ B X _ _ _ _ _ _ _ _ _ _ _ _ _ _ _ _ _ _ _ _ _ _ _ _ _ _ _ _ _ _ _ fA (news_r5 nA) hIA hlA hIC hlC hz ?kzl2 hD ?kn2 ?km2 ?kz2 T ?kq2 hQ
    case kzl2 => rw [hzet, zet_len]
    case kn2 => rw [eA]; exact trow_bound _ _ _ _
    case km2 => rw [eC]; exact trow_bound _ _ _ _
    case kz2 => rw [hzet]; exact zet_bound
    case kq2 =>
      have hP := plain one two (1 + x7) (1 + x8) one0 one1 two0 two1
      rw [if_neg (by omega)] at hP
      rw [flat0, eA, eC, hzet, hrns]
      exact hP
end Mine
namespace Mine
open PySem PySem.W PyProof.Rows
set_option maxRecDepth 100000
/-! congruence mod 3329 -/
def Cg (x y : Int) : Prop := (3329 : Int) ∣ x - y
theorem Cg.refl (x : Int) : Cg x x := by unfold Cg; rw [Int.sub_self]; exact Int.dvd_zero _
theorem Cg.of_eq {x y : Int} (h : x = y) : Cg x y := h ▸ Cg.refl x
theorem Cg.symm {x y : Int} (h : Cg x y) : Cg y x := by
  obtain ⟨k, hk⟩ := h; exact ⟨-k, by omega⟩
theorem Cg.trans {x y z : Int} (h : Cg x y) (h' : Cg y z) : Cg x z := by
  obtain ⟨k, hk⟩ := h; obtain ⟨k', hk'⟩ := h'; exact ⟨k + k', by omega⟩
theorem Cg.add {x y x' y' : Int} (h : Cg x y) (h' : Cg x' y') : Cg (x + x') (y + y') := by
  obtain ⟨k, hk⟩ := h; obtain ⟨k', hk'⟩ := h'; exact ⟨k + k', by omega⟩
theorem Cg.sub {x y x' y' : Int} (h : Cg x y) (h' : Cg x' y') : Cg (x - x') (y - y') := by
  obtain ⟨k, hk⟩ := h; obtain ⟨k', hk'⟩ := h'; exact ⟨k - k', by omega⟩
theorem Cg.neg {x y : Int} (h : Cg x y) : Cg (-x) (-y) := by
  obtain ⟨k, hk⟩ := h; exact ⟨-k, by omega⟩
theorem Cg.mul {x y x' y' : Int} (h : Cg x y) (h' : Cg x' y') : Cg (x * x') (y * y') := by
  have e : x * x' - y * y' = x * (x' - y') + (x - y) * y' := by rw [Int.mul_sub, Int.sub_mul]; omega
  unfold Cg
  rw [e]
  exact Int.dvd_add (Int.dvd_mul_of_dvd_right h') (Int.dvd_mul_of_dvd_left h)
theorem Cg.pow {x y : Int} (h : Cg x y) (n : Nat) : Cg (x ^ n) (y ^ n) := by
  induction n with
  | zero => rw [Int.pow_zero, Int.pow_zero]; exact Cg.refl 1
  | succ n ih => rw [Int.pow_succ, Int.pow_succ]; exact ih.mul h
theorem Cg.fmod (x : Int) : Cg (x.fmod 3329) x := by
  have := Int.mul_fdiv_add_fmod x 3329
  exact ⟨-(x.fdiv 3329), by omega⟩
theorem Cg.eq {x y : Int} (h : Cg x y) (h0 : 0 ≤ x) (h1 : x < 3329) (h2 : 0 ≤ y) (h3 : y < 3329) : x = y := by
  obtain ⟨k, hk⟩ := h; omega
/-! powMod is the power -/
theorem powMod_eq (b e m : Nat) : Builtin.powMod b e m = b ^ e % m := by
  unfold Builtin.powMod
  have key : ∀ n p, p = b ^ (e >>> n) % m → ((List.range n).reverse.foldl (fun p i => if e.testBit i then p * p % m * b % m else p * p % m) p) = b ^ e % m := by
    intro n
    induction n with
    | zero => intro p hp; simpa using hp
    | succ n ih =>
      intro p hp
      rw [List.range_succ, List.reverse_append, List.reverse_singleton, List.singleton_append, List.foldl_cons]
      refine ih _ ?_
      have h2 : e >>> (n + 1) = (e >>> n) / 2 := by rw [Nat.shiftRight_succ]
      have h3 : e.testBit n = decide ((e >>> n) % 2 = 1) := by
        rw [Nat.testBit_eq_decide_div_mod_eq, Nat.shiftRight_eq_div_pow]
      generalize e >>> n = f at h2 h3
      rw [h2] at hp
      rw [h3, hp]
      rcases Nat.mod_two_eq_zero_or_one f with hf | hf
      · rw [if_neg (by simp [hf]), ← Nat.mul_mod, ← Nat.pow_add]
        congr 2; omega
      · rw [if_pos (by simp [hf]), ← Nat.mul_mod, ← Nat.pow_add, Nat.mod_mul_mod, ← Nat.pow_succ]
        congr 2; omega
  refine key _ _ ?_
  have : e >>> Builtin.Int.intBits (e : Int) = 0 := by
    unfold Builtin.Int.intBits
    rw [Nat.shiftRight_eq_div_pow]
    by_cases he : e = 0
    · subst he; simp
    · rw [if_neg (by simpa using he)]
      exact Nat.div_eq_of_lt Nat.lt_log2_self
  rw [this, Nat.pow_zero]
theorem pm_eq (r k : Nat) : pm (r : Int) (k : Int) = ((r % 3329) ^ k % 3329 : Nat) := by
  unfold pm
  rw [powMod_eq]
  rfl
theorem pm_cg (r k : Nat) : Cg (pm (r : Int) (k : Int)) ((r : Int) ^ k) := by
  rw [pm_eq, ← Nat.pow_mod]
  refine ⟨-((r ^ k / 3329 : Nat) : Int), ?_⟩
  have h := Nat.div_add_mod (r ^ k) 3329
  have h2 : ((r ^ k : Nat) : Int) = (r : Int) ^ k := Int.natCast_pow r k
  rw [← h2]
  omega
/-! lists by their items -/
theorem getD_set (l : List Int) (i k : Nat) (v : Int) (h : i < l.length) : (l.set i v).getD k 0 = if k = i then v else l.getD k 0 := by
  rw [List.getD_eq_getElem?_getD, List.getD_eq_getElem?_getD, List.getElem?_set]
  by_cases e : i = k
  · subst e
    rw [if_pos rfl, if_pos h, if_pos rfl]; rfl
  · rw [if_neg e, if_neg (fun h => e h.symm)]
theorem bstep_nat (z : Int) (l j : Nat) (cs : List Int) (hl : 0 < l) (hj : j + l < cs.length) (i : Nat) :
    (bstep z (l : Int) (j : Int) cs).getD i 0 = if i = j then cs.getD j 0 + cs.getD (j + l) 0 else if i = j + l then z * (cs.getD (j + l) 0 - cs.getD j 0) else cs.getD i 0 := by
  have e1 : ((j : Int)).toNat = j := Int.toNat_natCast j
  have e2 : ((j : Int) + (l : Int)).toNat = j + l := by omega
  unfold bstep
  rw [e1, e2]
  generalize hc1 : cs.set j (cs.getD j 0 + cs.getD (j + l) 0) = c1
  have l1 : c1.length = cs.length := by rw [← hc1, List.length_set]
  have g1 : ∀ k, c1.getD k 0 = if k = j then cs.getD j 0 + cs.getD (j + l) 0 else cs.getD k 0 := fun k => by rw [← hc1, getD_set _ _ _ _ (by omega)]
  have g3 : c1.getD (j + l) 0 = cs.getD (j + l) 0 := by rw [g1, if_neg (by omega)]
  rw [g3]
  generalize hc2 : c1.set (j + l) (cs.getD (j + l) 0 - cs.getD j 0) = c2
  have l2 : c2.length = cs.length := by rw [← hc2, List.length_set, l1]
  have g2 : ∀ k, c2.getD k 0 = if k = j + l then cs.getD (j + l) 0 - cs.getD j 0 else c1.getD k 0 := fun k => by rw [← hc2, getD_set _ _ _ _ (by omega)]
  rw [getD_set _ _ _ _ (by omega), g2 (j + l), if_pos rfl, g2, g1]
  by_cases h1 : i = j
  · rw [if_neg (by omega), if_neg (by omega), if_pos h1, if_pos h1]
  · by_cases h2 : i = j + l
    · rw [if_pos h2, if_neg h1, if_pos h2]
    · rw [if_neg h2, if_neg h2, if_neg h1, if_neg h1, if_neg h2]
theorem bloop_nat (z : Int) (l st : Nat) (cs : List Int) (hl : 0 < l) (hst : st + 2 * l ≤ cs.length) : ∀ n, n ≤ l → ∀ i,
    (bloop z (l : Int) (st : Int) cs n).getD i 0 = if st ≤ i ∧ i < st + n then cs.getD i 0 + cs.getD (i + l) 0 else if st + l ≤ i ∧ i < st + l + n then z * (cs.getD i 0 - cs.getD (i - l) 0) else cs.getD i 0 := by
  intro n
  induction n with
  | zero =>
    intro _ i
    rw [bloop, if_neg (by omega), if_neg (by omega)]
  | succ n ih =>
    intro hn i
    have ih := ih (by omega)
    rw [bloop]
    have e : (st : Int) + (n : Int) = ((st + n : Nat) : Int) := by omega
    have hA : (bloop z (l : Int) (st : Int) cs n).getD (st + n) 0 = cs.getD (st + n) 0 := by rw [ih, if_neg (by omega), if_neg (by omega)]
    have hB : (bloop z (l : Int) (st : Int) cs n).getD (st + n + l) 0 = cs.getD (st + n + l) 0 := by rw [ih, if_neg (by omega), if_neg (by omega)]
    rw [e, bstep_nat z l (st + n) _ hl (by rw [bloop_len]; omega) i, hA, hB, ih i]
    by_cases h1 : i = st + n
    · rw [if_pos h1, if_pos (by omega), h1]
    · rw [if_neg h1]
      by_cases h2 : i = st + n + l
      · rw [if_pos h2, if_neg (by omega), if_pos (by omega), h2, Nat.add_sub_cancel]
      · rw [if_neg h2]
        by_cases h3 : st ≤ i ∧ i < st + n
        · rw [if_pos h3, if_pos (by omega)]
        · rw [if_neg h3]
          by_cases h4 : st + l ≤ i ∧ i < st + l + n
          · rw [if_pos h4, if_neg (by omega), if_pos (by omega)]
          · rw [if_neg h4, if_neg (by omega), if_neg (by omega)]
/-- what the blocks of one layer make of the list: pairs of halves -/
theorem blocks_nat (zns : List Int) (l k0 : Nat) (cs : List Int) (hl : 0 < l) : ∀ b, b ≤ k0 + 1 → 2 * l * b ≤ cs.length →
    (∀ B t, B < b → t < l → (blocks zns (l : Int) (k0 : Int) cs b).getD (2 * l * B + t) 0 = cs.getD (2 * l * B + t) 0 + cs.getD (2 * l * B + l + t) 0 ∧
      (blocks zns (l : Int) (k0 : Int) cs b).getD (2 * l * B + l + t) 0 = zns.getD (k0 - B) 0 * (cs.getD (2 * l * B + l + t) 0 - cs.getD (2 * l * B + t) 0)) ∧
    ∀ i, 2 * l * b ≤ i → (blocks zns (l : Int) (k0 : Int) cs b).getD i 0 = cs.getD i 0 := by
  intro b
  induction b with
  | zero => exact fun _ _ => ⟨fun B t hB => absurd hB (Nat.not_lt_zero _), fun i _ => by rw [blocks]⟩
  | succ b ih =>
    intro hk hlen
    rw [Nat.mul_add, Nat.mul_one] at hlen
    obtain ⟨ih1, ih2⟩ := ih (by omega) (by omega)
    have e1 : (2 * (l : Int) * (b : Int)) = ((2 * l * b : Nat) : Int) := by rw [Int.natCast_mul, Int.natCast_mul]; rfl
    have e2 : ((k0 : Int) - (b : Int)).toNat = k0 - b := by omega
    have e3 : ((l : Int)).toNat = l := Int.toNat_natCast l
    have hB := fun i => bloop_nat (zns.getD (k0 - b) 0) l (2 * l * b) (blocks zns (l : Int) (k0 : Int) cs b) hl (by rw [blocks_len]; omega) l (Nat.le_refl _) i
    have hb : ∀ i, (blocks zns (l : Int) (k0 : Int) cs (b + 1)).getD i 0 = (bloop (zns.getD (k0 - b) 0) (l : Int) ((2 * l * b : Nat) : Int) (blocks zns (l : Int) (k0 : Int) cs b) l).getD i 0 := by
      intro i
      rw [blocks, e1, e2, e3]
    refine ⟨fun B t hBb ht => ?_, fun i hi => ?_⟩
    · rcases Nat.lt_or_ge B b with h | h
      · have hm : 2 * l * B + 2 * l ≤ 2 * l * b := by
          have := Nat.mul_le_mul_left (2 * l) (show B + 1 ≤ b from h)
          rw [Nat.mul_add, Nat.mul_one] at this; exact this
        constructor
        · rw [hb, hB, if_neg (by omega), if_neg (by omega)]; exact (ih1 B t h ht).1
        · rw [hb, hB, if_neg (by omega), if_neg (by omega)]; exact (ih1 B t h ht).2
      · have : B = b := by omega
        subst this
        constructor
        · rw [hb, hB, if_pos (by omega), ih2 _ (by omega), ih2 _ (by omega)]
          congr 2; omega
        · rw [hb, hB, if_neg (by omega), if_pos (by omega), ih2 _ (by omega), ih2 _ (by omega)]
          congr 3; omega
    · rw [Nat.mul_add, Nat.mul_one] at hi
      rw [hb, hB, if_neg (by omega), if_neg (by omega)]
      exact ih2 i (by omega)
end Mine
namespace Mine
open PySem PySem.W PyProof.Rows
set_option maxRecDepth 100000
def RTn (p : Nat) : Nat := 17 ^ (2 * br7 p + 1) % 3329
def Rn (s B : Nat) : Nat := (RTn (2 ^ s * B)) ^ (2 ^ s) % 3329
theorem RT_get (p : Nat) (hp : p < 128) : RT.getD p 0 = (RTn p : Int) := by
  revert p; decide +kernel
theorem node_ok : ∀ s : Nat, s < 7 → ∀ b : Nat, b < 2 ^ (6 - s) → (zet.getD (2 ^ (7 - s) - 1 - b) 0 * (Rn s (2 * b) : Int) + 1) % 3329 = 0 ∧ ((Rn s (2 * b + 1) : Int) + (Rn s (2 * b) : Int)) % 3329 = 0 := by
  decide +kernel
theorem stage_nat : ∀ s : Nat, s < 7 → 2 * 2 ^ (s + 1) * 2 ^ (6 - s) = 256 ∧ 2 ^ (6 - s) ≤ 2 ^ (7 - s) - 1 + 1 := by decide
theorem cg_mod (n : Nat) : Cg ((n % 3329 : Nat) : Int) (n : Int) := by
  have := Nat.div_add_mod n 3329
  exact ⟨-((n / 3329 : Nat) : Int), by omega⟩
theorem Rn_succ (s b : Nat) : Cg (Rn (s + 1) b : Int) ((Rn s (2 * b) : Int) ^ 2) := by
  have e : 2 ^ (s + 1) * b = 2 ^ s * (2 * b) := by rw [Nat.pow_succ, Nat.mul_assoc]
  have h1 : Cg (Rn (s + 1) b : Int) ((RTn (2 ^ s * (2 * b)) : Int) ^ (2 ^ (s + 1))) := by
    unfold Rn
    rw [e, ← Int.natCast_pow]
    exact cg_mod _
  have h2 : Cg (Rn s (2 * b) : Int) ((RTn (2 ^ s * (2 * b)) : Int) ^ (2 ^ s)) := by
    unfold Rn
    rw [← Int.natCast_pow]
    exact cg_mod _
  refine h1.trans ?_
  rw [Nat.pow_succ, Int.pow_mul]
  exact (h2.pow 2).symm
theorem neg_pow (x : Int) : ∀ h : Nat, (-x) ^ (2 * h) = x ^ (2 * h) ∧ (-x) ^ (2 * h + 1) = -(x ^ (2 * h + 1)) := by
  intro h
  have e : (-x) ^ (2 * h) = x ^ (2 * h) := by
    rw [Int.pow_mul, Int.pow_mul]
    congr 1
    rw [Int.pow_succ, Int.pow_succ, Int.pow_zero, Int.pow_succ, Int.pow_succ, Int.pow_zero, Int.one_mul, Int.one_mul, Int.neg_mul_neg]
  exact ⟨e, by rw [Int.pow_succ, e, Int.pow_succ, Int.mul_neg]⟩
/-- what stands after s layers -/
def Inv (c : Int) (D s : Nat) (xs : List Int) : Prop :=
  xs.length = 256 ∧ ∀ B t, t < 2 ^ (s + 1) → 2 ^ (s + 1) * B + t < 256 → Cg (xs.getD (2 ^ (s + 1) * B + t) 0) (c * 2 ^ s * (if t = D % 2 ^ (s + 1) then (Rn s B : Int) ^ (D / 2 ^ (s + 1)) else 0))
theorem inv_step (c : Int) (D s : Nat) (xs : List Int) (hs : s < 7) (h : Inv c D s xs) :
    Inv c D (s + 1) (blocks zet ((2 ^ (s + 1) : Nat) : Int) (((2 ^ (7 - s) : Nat) : Int) - 1) xs (2 ^ (6 - s))) := by
  obtain ⟨hlen, hx⟩ := h
  obtain ⟨n1, n2⟩ := stage_nat s hs
  have hnode := node_ok s hs
  have hk0 : ((2 ^ (7 - s) : Nat) : Int) - 1 = ((2 ^ (7 - s) - 1 : Nat) : Int) := by
    have : 0 < 2 ^ (7 - s) := Nat.pow_pos (by decide)
    omega
  have hl : 0 < 2 ^ (s + 1) := Nat.pow_pos (by decide)
  have hl2 : 2 ^ (s + 1 + 1) = 2 * 2 ^ (s + 1) := by rw [Nat.pow_succ, Nat.mul_comm]
  have hu : c * 2 ^ (s + 1) = 2 * (c * 2 ^ s) := by rw [Int.pow_succ, ← Int.mul_assoc]; omega
  refine ⟨by rw [blocks_len]; exact hlen, ?_⟩
  rw [hk0, hl2, hu]
  generalize 2 ^ (s + 1) = l at *
  generalize 2 ^ (6 - s) = nb at *
  generalize 2 ^ (7 - s) - 1 = k0 at *
  generalize c * 2 ^ s = u at *
  obtain ⟨hb, -⟩ := blocks_nat zet l k0 xs hl nb n2 (by omega)
  intro B t' ht' hi
  have hBnb : B < nb := by
    false_or_by_contra
    have := Nat.mul_le_mul_left (2 * l) (show nb ≤ B by omega)
    omega
  obtain ⟨z1, z2⟩ := hnode B hBnb
  have hz : Cg (zet.getD (k0 - B) 0 * (Rn s (2 * B) : Int)) (-1) := by
    obtain ⟨k, hk⟩ := Int.dvd_of_emod_eq_zero z1; exact ⟨k, by omega⟩
  have hr : Cg (Rn s (2 * B + 1) : Int) (-(Rn s (2 * B) : Int)) := by
    obtain ⟨k, hk⟩ := Int.dvd_of_emod_eq_zero z2; exact ⟨k, by omega⟩
  have hR := Rn_succ s B
  have hbB := fun t => hb B t hBnb
  clear hb
  have hx1 := hx (2 * B)
  have hx2 := hx (2 * B + 1)
  clear hx hnode
  generalize (Rn s (2 * B) : Int) = ρ at *
  generalize (Rn s (2 * B + 1) : Int) = ρ' at *
  generalize (Rn (s + 1) B : Int) = R at *
  generalize zet.getD (k0 - B) 0 = z at *
  have e1 : l * (2 * B) = 2 * l * B := by rw [← Nat.mul_assoc, Nat.mul_comm l 2]
  have e2 : l * (2 * B + 1) = 2 * l * B + l := by rw [Nat.mul_add, e1, Nat.mul_one]
  have hB1 : 2 * l * B + 2 * l ≤ 256 := by
    have := Nat.mul_le_mul_left (2 * l) (show B + 1 ≤ nb from hBnb)
    rw [Nat.mul_add, Nat.mul_one] at this; omega
  have hq1 : D / (2 * l) = D / l / 2 := by rw [Nat.div_div_eq_div_mul, Nat.mul_comm l 2]
  have hq2 : D % (2 * l) = D % l + l * (D / l % 2) := by rw [Nat.mul_comm 2 l, Nat.mod_mul]
  have hrl : D % l < l := Nat.mod_lt _ hl
  have hRp : ∀ h : Nat, Cg (R ^ h) (ρ ^ (2 * h)) := fun h => by rw [Int.pow_mul]; exact hR.pow h
  have hre : ∀ h : Nat, Cg (ρ' ^ (2 * h)) (ρ ^ (2 * h)) := fun h => by have := hr.pow (2 * h); rw [(neg_pow ρ h).1] at this; exact this
  have hro : ∀ h : Nat, Cg (ρ' ^ (2 * h + 1)) (-(ρ ^ (2 * h + 1))) := fun h => by have := hr.pow (2 * h + 1); rw [(neg_pow ρ h).2] at this; exact this
  have hne : ∀ t, t < l → ¬ t = D % l → ¬ t = D % l + l * (D / l % 2) := by
    intro t h1 h2
    rcases Nat.mod_two_eq_zero_or_one (D / l) with e | e
    · rw [e, Nat.mul_zero]; omega
    · rw [e, Nat.mul_one]; omega
  have hne2 : ∀ t, t < l → ¬ t = D % l → ¬ l + t = D % l + l * (D / l % 2) := by
    intro t h1 h2
    rcases Nat.mod_two_eq_zero_or_one (D / l) with e | e
    · rw [e, Nat.mul_zero]; omega
    · rw [e, Nat.mul_one]; omega
  have hpar : ∃ h, D / l = 2 * h ∨ D / l = 2 * h + 1 := ⟨D / l / 2, by omega⟩
  obtain ⟨h, hh⟩ := hpar
  rw [hq1, hq2]
  rcases Nat.lt_or_ge t' l with ht | ht
  · have x1 := hx1 t' ht (by rw [e1]; omega)
    have x2 := hx2 t' ht (by rw [e2]; omega)
    rw [e1] at x1
    rw [e2] at x2
    rw [(hbB t' ht).1]
    by_cases htr : t' = D % l
    · rw [if_pos htr] at x1 x2
      rcases hh with hh | hh
      · rw [hh] at x1 x2 ⊢
        rw [if_pos (by rw [htr, Nat.mul_mod_right, Nat.mul_zero, Nat.add_zero]), Nat.mul_div_cancel_left _ (by decide)]
        have y2 := x2.trans ((Cg.refl u).mul (hre h))
        refine (x1.add y2).trans ((Cg.of_eq ?_).trans ((Cg.refl (2 * u)).mul (hRp h)).symm)
        rw [Int.mul_assoc]; omega
      · rw [hh] at x1 x2 ⊢
        have e3 : (2 * h + 1) % 2 = 1 := by omega
        rw [e3, Nat.mul_one, if_neg (by omega), Int.mul_zero]
        have y2 := x2.trans ((Cg.refl u).mul (hro h))
        refine (x1.add y2).trans (Cg.of_eq ?_)
        rw [Int.mul_neg]; omega
    · rw [if_neg htr] at x1 x2
      rw [if_neg (hne t' ht htr), Int.mul_zero]
      rw [Int.mul_zero] at x1 x2
      exact x1.add x2
  · obtain ⟨t, rfl⟩ : ∃ t, t' = l + t := ⟨t' - l, by omega⟩
    have ht2 : t < l := by omega
    have x1 := hx1 t ht2 (by rw [e1]; omega)
    have x2 := hx2 t ht2 (by rw [e2]; omega)
    rw [e1] at x1
    rw [e2] at x2
    rw [← Nat.add_assoc, (hbB t ht2).2]
    by_cases htr : t = D % l
    · rw [if_pos htr] at x1 x2
      rcases hh with hh | hh
      · rw [hh] at x1 x2 ⊢
        rw [if_neg (by rw [Nat.mul_mod_right, Nat.mul_zero]; omega), Int.mul_zero]
        have y2 := x2.trans ((Cg.refl u).mul (hre h))
        have y3 := (Cg.refl z).mul (y2.sub x1)
        rw [Int.sub_self, Int.mul_zero] at y3
        exact y3
      · rw [hh] at x1 x2 ⊢
        have e3 : (2 * h + 1) % 2 = 1 := by omega
        have e4 : (2 * h + 1) / 2 = h := by omega
        rw [e3, e4, Nat.mul_one, if_pos (by omega)]
        have y2 := x2.trans ((Cg.refl u).mul (hro h))
        have y3 := (Cg.refl z).mul (y2.sub x1)
        refine y3.trans ?_
        have y4 : Cg (2 * u * (-(z * ρ)) * ρ ^ (2 * h)) (2 * u * 1 * R ^ h) := ((Cg.refl (2 * u)).mul hz.neg).mul (hRp h).symm
        rw [Int.mul_one] at y4
        refine (Cg.of_eq ?_).trans y4
        rw [Int.pow_succ]
        generalize ρ ^ (2 * h) = P
        grind
    · rw [if_neg htr] at x1 x2
      rw [if_neg (hne2 t ht2 htr), Int.mul_zero]
      rw [Int.mul_zero] at x1 x2
      have y3 := (Cg.refl z).mul (x2.sub x1)
      rw [Int.sub_self, Int.mul_zero] at y3
      exact y3
end Mine
namespace Mine
open PySem PySem.W PyProof.Rows
set_option maxRecDepth 100000
theorem node0 : ∀ i : Nat, i < 64 → (zet.getD (64 + i) 0 - (RTn (2 * i) : Int)) % 3329 = 0 ∧ (-(zet.getD (64 + i) 0) - (RTn (2 * i + 1) : Int)) % 3329 = 0 := by decide +kernel
theorem last_root : ((Rn 7 0 : Int) + 1) % 3329 = 0 := by decide +kernel
theorem Rn_zero (B : Nat) : Rn 0 B = RTn B := by
  unfold Rn
  rw [Nat.pow_zero, Nat.one_mul, Nat.pow_one]
  unfold RTn
  rw [Nat.mod_mod]
theorem fmod2 (d : Nat) : ((d : Int)).fmod 2 = ((d % 2 : Nat) : Int) := by
  rw [Int.fmod_eq_emod_of_nonneg _ (by decide)]; omega
theorem fdiv2 (d : Nat) : ((d : Int)).fdiv 2 = ((d / 2 : Nat) : Int) := by
  rw [Int.fdiv_eq_ediv_of_nonneg _ (by decide)]; omega
theorem trow_nat (d : Nat) (c : Int) : ∀ n, n ≤ 128 → ∀ p t, t < 2 → p < 128 → (trow RT (d : Int) c n).getD (2 * p + t) 0 = if p < n ∧ t = d % 2 then tcell (RT.getD p 0) (d : Int) c else 0 := by
  intro n
  induction n with
  | zero =>
    intro _ p t _ _
    rw [trow, if_neg (by omega), List.getD_eq_getElem?_getD, List.getElem?_replicate]
    split <;> rfl
  | succ n ih =>
    intro hn p t ht hp
    have e : (2 * (n : Int) + ((d : Int)).fmod 2).toNat = 2 * n + d % 2 := by rw [fmod2]; omega
    rw [trow, e, getD_set _ _ _ _ (by rw [trow_len]; omega), ih (by omega) p t ht hp]
    by_cases h : 2 * p + t = 2 * n + d % 2
    · have h1 : p = n := by omega
      have h2 : t = d % 2 := by omega
      rw [if_pos h, if_pos (by omega), h1]
    · rw [if_neg h]
      by_cases h3 : p < n ∧ t = d % 2
      · rw [if_pos h3, if_pos (by omega)]
      · rw [if_neg h3, if_neg (by omega)]
theorem trow_cg (d : Nat) (c : Int) (p t : Nat) (ht : t < 2) (hp : p < 128) : Cg ((trow RT (d : Int) c 128).getD (2 * p + t) 0) (if t = d % 2 then c * (RTn p : Int) ^ (d / 2) else 0) := by
  rw [trow_nat d c 128 (Nat.le_refl _) p t ht hp, RT_get p hp]
  by_cases h : t = d % 2
  · rw [if_pos ⟨hp, h⟩, if_pos h]
    unfold tcell
    rw [fdiv2]
    exact (Cg.fmod _).trans ((Cg.refl c).mul (pm_cg _ _))
  · rw [if_neg (fun hh => h hh.2), if_neg h]
    exact Cg.refl 0
theorem pmul_nat (ns ms zns : List Int) : ∀ n i k, i < n → k < 4 → (pmul ns ms zns n).getD (4 * i + k) 0 = (pquad ns ms zns (i : Int)).getD k 0 := by
  intro n
  induction n with
  | zero => intro i k hi; omega
  | succ n ih =>
    intro i k hi hk
    rw [pmul, List.getD_eq_getElem?_getD, List.getElem?_append]
    rcases Nat.lt_or_ge i n with h | h
    · rw [if_pos (by rw [pmul_len]; omega), ← List.getD_eq_getElem?_getD]
      exact ih i k h hk
    · have : i = n := by omega
      subst this
      rw [if_neg (by rw [pmul_len]; omega), pmul_len, ← List.getD_eq_getElem?_getD, show 4 * i + k - 4 * i = k by omega]
theorem base_pair (A0 A1 B0 B1 ζ ρ a b : Int) (d e : Nat) (hz : Cg ζ ρ)
    (a0 : Cg A0 (if 0 = d % 2 then a * ρ ^ (d / 2) else 0)) (a1 : Cg A1 (if 1 = d % 2 then a * ρ ^ (d / 2) else 0))
    (b0 : Cg B0 (if 0 = e % 2 then b * ρ ^ (e / 2) else 0)) (b1 : Cg B1 (if 1 = e % 2 then b * ρ ^ (e / 2) else 0)) :
    Cg (A0 * B0 + ζ * A1 * B1) (a * b * (if 0 = (d + e) % 2 then ρ ^ ((d + e) / 2) else 0)) ∧
    Cg (A1 * B0 + A0 * B1) (a * b * (if 1 = (d + e) % 2 then ρ ^ ((d + e) / 2) else 0)) := by
  have k0 := (a0.mul b0).add ((hz.mul a1).mul b1)
  have k1 := (a1.mul b0).add (a0.mul b1)
  rcases Nat.mod_two_eq_zero_or_one d with hd | hd <;> rcases Nat.mod_two_eq_zero_or_one e with he | he
  · rw [hd, he] at k0 k1
    have h1 : (d + e) % 2 = 0 := by omega
    have h2 : (d + e) / 2 = d / 2 + e / 2 := by omega
    rw [h1, h2]
    simp only [if_pos, if_neg, Nat.zero_ne_one, Nat.one_ne_zero, if_true, if_false] at k0 k1 ⊢
    refine ⟨k0.trans (Cg.of_eq ?_), k1.trans (Cg.of_eq ?_)⟩
    · rw [Int.pow_add]; grind
    · grind
  · rw [hd, he] at k0 k1
    have h1 : (d + e) % 2 = 1 := by omega
    have h2 : (d + e) / 2 = d / 2 + e / 2 := by omega
    rw [h1, h2]
    simp only [if_pos, if_neg, Nat.zero_ne_one, Nat.one_ne_zero, if_true, if_false] at k0 k1 ⊢
    refine ⟨k0.trans (Cg.of_eq ?_), k1.trans (Cg.of_eq ?_)⟩
    · grind
    · rw [Int.pow_add]; grind
  · rw [hd, he] at k0 k1
    have h1 : (d + e) % 2 = 1 := by omega
    have h2 : (d + e) / 2 = d / 2 + e / 2 := by omega
    rw [h1, h2]
    simp only [if_pos, if_neg, Nat.zero_ne_one, Nat.one_ne_zero, if_true, if_false] at k0 k1 ⊢
    refine ⟨k0.trans (Cg.of_eq ?_), k1.trans (Cg.of_eq ?_)⟩
    · grind
    · rw [Int.pow_add]; grind
  · rw [hd, he] at k0 k1
    have h1 : (d + e) % 2 = 0 := by omega
    have h2 : (d + e) / 2 = d / 2 + e / 2 + 1 := by omega
    rw [h1, h2]
    simp only [if_pos, if_neg, Nat.zero_ne_one, Nat.one_ne_zero, if_true, if_false] at k0 k1 ⊢
    refine ⟨k0.trans (Cg.of_eq ?_), k1.trans (Cg.of_eq ?_)⟩
    · rw [Int.pow_succ, Int.pow_add]; grind
    · grind
end Mine
namespace Mine
open PySem PySem.W PyProof.Rows
set_option maxRecDepth 100000
theorem pe_nat (ns : List Int) (i j : Nat) : pe ns (i : Int) (j : Int) = ns.getD (4 * i + j) 0 := by
  unfold pe
  rw [show (4 * (i : Int) + (j : Int)).toNat = 4 * i + j by omega]
theorem pz_nat (zns : List Int) (i : Nat) : pz zns (i : Int) = zns.getD (64 + i) 0 := by
  unfold pz
  rw [show (64 + (i : Int)).toNat = 64 + i by omega]
theorem inv_base (d e : Nat) (a b : Int) : Inv (a * b) (d + e) 0 (pmul (trow RT (d : Int) a 128) (trow RT (e : Int) b 128) zet 64) := by
  refine ⟨by rw [pmul_len], ?_⟩
  intro B t ht hi
  rw [Nat.zero_add, Nat.pow_one] at ht hi ⊢
  rw [Rn_zero, Int.pow_zero, Int.mul_one]
  generalize hns : trow RT (d : Int) a 128 = ns
  generalize hms : trow RT (e : Int) b 128 = ms
  have ha : ∀ p t, t < 2 → p < 128 → Cg (ns.getD (2 * p + t) 0) (if t = d % 2 then a * (RTn p : Int) ^ (d / 2) else 0) := fun p t h1 h2 => by rw [← hns]; exact trow_cg d a p t h1 h2
  have hb : ∀ p t, t < 2 → p < 128 → Cg (ms.getD (2 * p + t) 0) (if t = e % 2 then b * (RTn p : Int) ^ (e / 2) else 0) := fun p t h1 h2 => by rw [← hms]; exact trow_cg e b p t h1 h2
  clear hns hms
  obtain ⟨i, hB⟩ : ∃ i, B = 2 * i ∨ B = 2 * i + 1 := ⟨B / 2, by omega⟩
  have hi64 : i < 64 := by omega
  obtain ⟨m0, m1⟩ := node0 i hi64
  rcases hB with hB | hB
  · have hz : Cg (zet.getD (64 + i) 0) (RTn (2 * i) : Int) := by
      obtain ⟨k, hk⟩ := Int.dvd_of_emod_eq_zero m0; exact ⟨k, hk⟩
    have h := base_pair _ _ _ _ _ _ a b d e hz (ha (2 * i) 0 (by decide) (by omega)) (ha (2 * i) 1 (by decide) (by omega)) (hb (2 * i) 0 (by decide) (by omega)) (hb (2 * i) 1 (by decide) (by omega))
    rw [show 2 * (2 * i) + 0 = 4 * i + 0 by omega, show 2 * (2 * i) + 1 = 4 * i + 1 by omega] at h
    rw [hB, show 2 * (2 * i) + t = 4 * i + t by omega, pmul_nat _ _ _ 64 i t hi64 (by omega)]
    obtain ht2 | ht2 : t = 0 ∨ t = 1 := by omega
    · rw [ht2]
      show Cg ((pe ns i ((0 : Nat) : Int) * pe ms i ((0 : Nat) : Int) + pz zet i * pe ns i ((1 : Nat) : Int) * pe ms i ((1 : Nat) : Int)).fmod 3329) _
      rw [pe_nat, pe_nat, pe_nat, pe_nat, pz_nat]
      exact (Cg.fmod _).trans h.1
    · rw [ht2]
      show Cg ((pe ns i ((1 : Nat) : Int) * pe ms i ((0 : Nat) : Int) + pe ns i ((0 : Nat) : Int) * pe ms i ((1 : Nat) : Int)).fmod 3329) _
      rw [pe_nat, pe_nat, pe_nat, pe_nat]
      exact (Cg.fmod _).trans h.2
  · have hz : Cg (-(zet.getD (64 + i) 0)) (RTn (2 * i + 1) : Int) := by
      obtain ⟨k, hk⟩ := Int.dvd_of_emod_eq_zero m1; exact ⟨k, hk⟩
    have h := base_pair _ _ _ _ _ _ a b d e hz (ha (2 * i + 1) 0 (by decide) (by omega)) (ha (2 * i + 1) 1 (by decide) (by omega)) (hb (2 * i + 1) 0 (by decide) (by omega)) (hb (2 * i + 1) 1 (by decide) (by omega))
    rw [show 2 * (2 * i + 1) + 0 = 4 * i + 2 by omega, show 2 * (2 * i + 1) + 1 = 4 * i + 3 by omega] at h
    rw [hB, show 2 * (2 * i + 1) + t = 4 * i + (2 + t) by omega, pmul_nat _ _ _ 64 i (2 + t) hi64 (by omega)]
    obtain ht2 | ht2 : t = 0 ∨ t = 1 := by omega
    · rw [ht2]
      show Cg ((pe ns i ((2 : Nat) : Int) * pe ms i ((2 : Nat) : Int) + -pz zet i * pe ns i ((3 : Nat) : Int) * pe ms i ((3 : Nat) : Int)).fmod 3329) _
      rw [pe_nat, pe_nat, pe_nat, pe_nat, pz_nat]
      exact (Cg.fmod _).trans h.1
    · rw [ht2]
      show Cg ((pe ns i ((3 : Nat) : Int) * pe ms i ((2 : Nat) : Int) + pe ns i ((2 : Nat) : Int) * pe ms i ((3 : Nat) : Int)).fmod 3329) _
      rw [pe_nat, pe_nat, pe_nat, pe_nat]
      exact (Cg.fmod _).trans h.2
theorem inv_layers (c : Int) (D : Nat) (xs : List Int) (h : Inv c D 0 xs) : ∀ s, s ≤ 7 → Inv c D s (layers zet xs s) := by
  intro s
  induction s with
  | zero => intro _; rw [layers]; exact h
  | succ s ih => intro hs; rw [layers]; exact inv_step c D s _ (by omega) (ih (by omega))
theorem floop_nat (ys : List Int) : ∀ n, n ≤ ys.length → ∀ i, (floop ys n).getD i 0 = if i < n then (ys.getD i 0 * 3303).fmod 3329 else ys.getD i 0 := by
  intro n
  induction n with
  | zero => intro _ i; rw [floop, if_neg (Nat.not_lt_zero i)]
  | succ n ih =>
    intro hn i
    rw [floop, getD_set _ _ _ _ (by rw [floop_len]; omega), ih (by omega) n, if_neg (Nat.lt_irrefl n), ih (by omega) i]
    by_cases h : i = n
    · rw [if_pos h, if_pos (by omega), h]
    · rw [if_neg h]
      by_cases h2 : i < n
      · rw [if_pos h2, if_pos (by omega)]
      · rw [if_neg h2, if_neg (by omega)]
theorem ext_getD {l m : List Int} (hl : l.length = m.length) (h : ∀ i, i < l.length → l.getD i 0 = m.getD i 0) : l = m := by
  refine List.ext_getElem hl fun i h1 h2 => ?_
  have := h i h1
  rw [List.getD_eq_getElem?_getD, List.getD_eq_getElem?_getD, List.getElem?_eq_getElem h1, List.getElem?_eq_getElem h2] at this
  exact this
theorem fin_cg (y c : Int) (h : Cg y (c * 2 ^ 7)) : (y * 3303).fmod 3329 = c.fmod 3329 := by
  refine Cg.eq ?_ (fmod_lo _ (by decide)) (fmod_hi _ (by decide)) (fmod_lo _ (by decide)) (fmod_hi _ (by decide))
  refine (Cg.fmod _).trans (Cg.trans ?_ (Cg.fmod c).symm)
  obtain ⟨k, hk⟩ := h
  refine ⟨3303 * k + 127 * c, ?_⟩
  have : (2 : Int) ^ 7 = 128 := by decide
  rw [this] at hk
  omega
theorem due_nat (n : Nat) (v : Int) (h : n < 256) (i : Nat) : ((List.replicate 256 (0 : Int)).set n v).getD i 0 = if i = n then v else 0 := by
  rw [getD_set _ _ _ _ (by rw [List.length_replicate]; exact h)]
  split
  · rfl
  · rw [List.getD_eq_getElem?_getD, List.getElem?_replicate]; split <;> rfl
theorem plain : PlainLaw := by
  intro d e a b hd0 hd1 he0 he1
  obtain ⟨d, rfl⟩ := Int.eq_ofNat_of_zero_le hd0
  obtain ⟨e, rfl⟩ := Int.eq_ofNat_of_zero_le he0
  obtain ⟨hl, hx⟩ := inv_layers _ _ _ (inv_base d e a b) 7 (Nat.le_refl _)
  generalize layers zet (pmul (trow RT (d : Int) a 128) (trow RT (e : Int) b 128) zet 64) 7 = ys at hl hx
  have hy : ∀ t, t < 256 → Cg (ys.getD t 0) (a * b * 2 ^ 7 * (if t = (d + e) % 256 then (Rn 7 0 : Int) ^ ((d + e) / 256) else 0)) := by
    intro t ht
    have := hx 0 t (by rw [show 2 ^ (7 + 1) = 256 from rfl]; exact ht) (by rw [Nat.mul_zero]; omega)
    rw [show 2 ^ (7 + 1) = 256 from rfl, Nat.mul_zero, Nat.zero_add] at this
    exact this
  by_cases h : (d : Int) + (e : Int) < 256
  · rw [if_pos h]
    refine ext_getD (by rw [floop_len, hl, List.length_set, List.length_replicate]) fun i hi => ?_
    rw [floop_len, hl] at hi
    rw [show ((d : Int) + (e : Int)).toNat = d + e by omega, floop_nat _ 256 (by omega), if_pos hi, due_nat _ _ (by omega)]
    have hy := hy i hi
    rw [Nat.mod_eq_of_lt (by omega : d + e < 256), Nat.div_eq_of_lt (by omega : d + e < 256), Int.pow_zero] at hy
    by_cases hi2 : i = d + e
    · rw [if_pos hi2, Int.mul_one] at hy
      rw [if_pos hi2]
      exact fin_cg _ _ hy
    · rw [if_neg hi2, Int.mul_zero] at hy
      rw [if_neg hi2]
      exact fin_cg _ 0 (by rw [Int.zero_mul]; exact hy)
  · rw [if_neg h]
    refine ext_getD (by rw [floop_len, hl, List.length_set, List.length_replicate]) fun i hi => ?_
    rw [floop_len, hl] at hi
    rw [show ((d : Int) + (e : Int) - 256).toNat = d + e - 256 by omega, floop_nat _ 256 (by omega), if_pos hi, due_nat _ _ (by omega)]
    have hy := hy i hi
    rw [show (d + e) % 256 = d + e - 256 by omega, show (d + e) / 256 = 1 by omega, show (Rn 7 0 : Int) ^ 1 = (Rn 7 0 : Int) by rw [Int.pow_succ, Int.pow_zero, Int.one_mul]] at hy
    have hr : Cg (Rn 7 0 : Int) (-1) := by
      obtain ⟨k, hk⟩ := Int.dvd_of_emod_eq_zero last_root; exact ⟨k, by omega⟩
    by_cases hi2 : i = d + e - 256
    · rw [if_pos hi2] at hy
      rw [if_pos hi2]
      refine fin_cg _ _ (hy.trans (((Cg.refl _).mul hr).trans (Cg.of_eq ?_)))
      rw [show (2 : Int) ^ 7 = 128 by decide, Int.sub_mul, Int.zero_mul]
      omega
    · rw [if_neg hi2, Int.mul_zero] at hy
      rw [if_neg hi2]
      exact fin_cg _ 0 (by rw [Int.zero_mul]; exact hy)
end Mine
namespace Mine
open PySem PySem.W PyProof.Rows PySem.Spec PySem.Calls
set_option maxRecDepth 100000
set_option maxHeartbeats 4000000
local macro_rules | `(tactic| walk_at "execs cons") => `(tactic| ((with_reducible show wpAny _ _ (execs (Stmt.Assign [Expr.Name (Str.ofString "ring") _] _ _ :: _) _) _ _ _); refine Hold.out ?_))
theorem news_2 {h₀ h : Heap} {L : Addr} {a b : Addr × Obj} {r : List (Addr × Obj)} (N : News h₀ L h (a :: b :: r)) : News h₀ L h [a, b] := fun p hp => N p (by
  rcases List.mem_cons.mp hp with e | hp
  · rw [e]; exact .head _
  · rw [List.mem_singleton.mp hp]; exact .tail _ (.head _))
theorem walk : WalkO q loose (XL q []) (Hook.says (kHook K as asK)) PySem.Challenge.rw_yi0046_01.row.toRowW ⟨Str.ofString "law", P_13, B_13, S_13, ⟨304, 0, 318, 52⟩⟩ [] fun f vs => PySem.call f vs := by
  dsimp only [P_13, B_13, S_13]
  w_on
  k_go0
  all_goals try k_fold
  k_steps
  · refine ⟨?_⟩
    rename News _ _ _ _ => kN
    refine' rest plain _ _ _ _ _ _ _ _ _ _ _ _ _ ?kB ?kX _ _ _ _ _ _ ?kF (news_2 kN) ?kne (.cons 0 _ .nil) Nat.one_pos (Nat.lt_of_sub_eq_succ rfl) ?knn ?kT ?kQ
    case kB => assumption
    case kX => assumption
    case kF => assumption
    case kne => omega
    case knn => intro x hx; rw [List.mem_singleton.mp hx]; exact Int.le_refl 0
    case kT => assumption
    case kQ =>
      intro h' tk' m' F'
      k_steps
  · refine ⟨?_⟩
    rename News _ _ _ _ => kN
    rename IntsAre _ (List.map _ _) => hI
    refine' rest plain _ _ _ _ _ _ _ _ _ _ _ _ _ ?kB2 ?kX2 _ _ _ _ _ _ ?kF2 (news_2 kN) ?kne2 hI ?kp2 ?kl2 ?knn2 ?kT2 ?kQ2
    case kB2 => assumption
    case kX2 => assumption
    case kF2 => assumption
    case kne2 => omega
    case knn2 =>
      intro x hx
      obtain ⟨y, _, rfl⟩ := List.mem_map.mp hx
      split <;> omega
    case kl2 => rw [List.length_map, List.length_take]; omega
    case kp2 => first | omega | (simp only [List.length_map] at *; omega) | (simp_all; omega)
    case kT2 => assumption
    case kQ2 =>
      intro h' tk' m' F'
      k_steps
end Mine
namespace Mine
theorem hd (walk : WalkO q loose (XL q []) (Hook.says Hk) PySem.Challenge.rw_yi0046_01.row.toRowW ⟨Str.ofString "law", P_13, B_13, S_13, ⟨304, 0, 318, 52⟩⟩ [] fun f vs => PySem.call f vs) : PySem.Challenge.rw_yi0046_01.Holds := by
  w_on; o_law
  refine holds_open (q := q) (loose := loose) (Xt := Xt) (XP := XL q []) (Yf := Hook.obs Hk) (Ya := Hook.val Hk) (YP := Hook.says Hk) (N := 6370) left (Hook.of Hk) (Hook.keeps Hk) (fun s e => xl_of s (Bool.and_eq_true_iff.mp e).1) XL.keeps (by rfl) (by rfl) (by rfl) (fun s e => recFacts_of (Bool.and_eq_true_iff.mp e).2) (by rfl) (by first | assumption | decide +kernel) (by decide +kernel) ⟨rfl, rfl, rfl, rfl, rfl, by decide +kernel⟩ ?hw ?hc
  case hw => w_witness2
  exact walk
end Mine
theorem PySem.Challenge.cw_yi0046_01_holds : PySem.Challenge.rw_yi0046_01.Holds :=
  Mine.hd Mine.walk
