/-
  Pure words: how many values there are in a value.
-/
import Derived.Test.YtljaoopfomcaoaaGreatDoorMe
set_option linter.unusedVariables false
set_option linter.unusedSimpArgs false
namespace Go.Proofs.YtljaoopfomcaoaaGreatDoor
open Go.RowKit

mutual
/-- How many values there are in a value, itself one of them. -/
def sz : J → Nat
  | .list xs => 1 + szL xs
  | .table kvs => 1 + szT kvs
  | .null => 1
  | .bool _ => 1
  | .int _ => 1
  | .float _ => 1
  | .text _ => 1
def szL : List J → Nat
  | [] => 0
  | x :: r => sz x + szL r
def szT : List (K × J) → Nat
  | [] => 0
  | p :: r => szP p + szT r
def szP : K × J → Nat
  | (_, x) => sz x
end

theorem sz_pos (j : J) : 1 ≤ sz j := by cases j <;> simp [sz]

theorem szP_eq (p : K × J) : szP p = sz p.2 := by cases p; rfl

theorem szL_take (xs : List J) (n : Nat) (x : J) (h : xs[n]? = some x) : szL (xs.take n) + sz x = szL (xs.take (n + 1)) := by
  induction xs generalizing n with
  | nil => simp at h
  | cons y r ih =>
    cases n with
    | zero => simp at h; subst h; simp [szL]
    | succ n => simp at h; have := ih n h; simp [szL]; omega

theorem szT_take (xs : T) (n : Nat) (p : K × J) (h : xs[n]? = some p) : szT (xs.take n) + sz p.2 = szT (xs.take (n + 1)) := by
  induction xs generalizing n with
  | nil => simp at h
  | cons y r ih =>
    cases n with
    | zero => simp at h; subst h; simp [szT]; rw [szP_eq]
    | succ n => simp at h; have := ih n h; simp [szT]; omega

theorem szL_le (xs : List J) (n : Nat) : szL (xs.take n) ≤ szL xs := by
  induction xs generalizing n with
  | nil => simp [szL]
  | cons y r ih => cases n with
    | zero => simp [szL]
    | succ n => have := ih n; simp [szL]; omega

theorem szT_le (xs : T) (n : Nat) : szT (xs.take n) ≤ szT xs := by
  induction xs generalizing n with
  | nil => simp [szT]
  | cons y r ih => cases n with
    | zero => simp [szT]
    | succ n => have := ih n; simp [szT]; omega

theorem szL_length (xs : List J) : xs.length ≤ szL xs := by
  induction xs with
  | nil => simp
  | cons y r ih => have := sz_pos y; simp [szL]; omega

theorem szT_length (xs : T) : xs.length ≤ szT xs := by
  induction xs with
  | nil => simp
  | cons y r ih => have := sz_pos y.2; simp [szT, szP_eq]; omega

end Go.Proofs.YtljaoopfomcaoaaGreatDoor
