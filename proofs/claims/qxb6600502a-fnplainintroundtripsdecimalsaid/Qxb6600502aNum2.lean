/- The automaton of JSON numbers, and that it answers as the scanner does: no Go in sight. -/
import Derived.Test.Qxb6600502aNum
namespace Go.Proofs.Qxb6600502a.Num

/-- the automaton's table; -1: no transition -/
def stp : Nat → Int → Int
  | 0, c => if c = 45 then 1 else if c = 48 then 2 else if 48 ≤ c ∧ c ≤ 57 then 3 else -1
  | 1, c => if c = 48 then 2 else if 48 ≤ c ∧ c ≤ 57 then 3 else -1
  | 2, c => if c = 46 then 4 else if c = 101 ∨ c = 69 then 6 else -1
  | 3, c => if 48 ≤ c ∧ c ≤ 57 then 3 else if c = 46 then 4 else if c = 101 ∨ c = 69 then 6 else -1
  | 4, c => if 48 ≤ c ∧ c ≤ 57 then 5 else -1
  | 5, c => if 48 ≤ c ∧ c ≤ 57 then 5 else if c = 101 ∨ c = 69 then 6 else -1
  | 6, c => if c = 43 ∨ c = 45 then 7 else if 48 ≤ c ∧ c ≤ 57 then 8 else -1
  | 7, c => if 48 ≤ c ∧ c ≤ 57 then 8 else -1
  | 8, c => if 48 ≤ c ∧ c ≤ 57 then 8 else -1
  | _, _ => -1

theorem cat (c : Int) : c = 45 ∨ c = 48 ∨ ((c == 45) = false ∧ (c == 46) = false ∧ (c == 101) = false ∧ (c == 69) = false ∧ (c == 43) = false ∧ (c == 48) = false ∧ 49 ≤ c ∧ c ≤ 57) ∨ c = 46 ∨ c = 101 ∨ c = 69 ∨ c = 43 ∨
    ((c == 45) = false ∧ (c == 46) = false ∧ (c == 101) = false ∧ (c == 69) = false ∧ (c == 43) = false ∧ (c == 48) = false ∧ c < 48) ∨
    ((c == 45) = false ∧ (c == 46) = false ∧ (c == 101) = false ∧ (c == 69) = false ∧ (c == 43) = false ∧ (c == 48) = false ∧ 57 < c) := by
  simp only [beq_eq_false_iff_ne, ne_eq]
  omega

theorem stp_range (s : Nat) (c : Int) : stp s c = -1 ∨ (0 ≤ stp s c ∧ stp s c ≤ 8) := by
  unfold stp
  split <;> (repeat' split) <;> omega

/-- the state in which the automaton stops, and how many bytes it has eaten -/
def run : Nat → List Int → Nat × Nat
  | s, [] => (s, 0)
  | s, c :: t => if stp s c < 0 then (s, 0) else ((run (stp s c).toNat t).1, (run (stp s c).toNat t).2 + 1)

def acc (s : Nat) : Bool := s == 2 || s == 3 || s == 5 || s == 8

def model (zs : List Int) : Option Nat := if acc (run 0 zs).1 = true then some (run 0 zs).2 else none

theorem run_end (zs : List Int) (k s : Nat) (h : zs.length ≤ k) : run s (zs.drop k) = (s, 0) := by
  rw [List.drop_eq_nil_of_le h]; rfl

theorem run_stop (zs : List Int) (k s : Nat) (h : k < zs.length) (h1 : stp s (zs[k]?.getD 0) < 0) : run s (zs.drop k) = (s, 0) := by
  rw [drop_cons zs k h, run, if_pos h1]

theorem run_go (zs : List Int) (k s : Nat) (h : k < zs.length) (h1 : ¬ stp s (zs[k]?.getD 0) < 0) :
    run s (zs.drop k) = ((run (stp s (zs[k]?.getD 0)).toNat (zs.drop (k + 1))).1, (run (stp s (zs[k]?.getD 0)).toNat (zs.drop (k + 1))).2 + 1) := by
  rw [drop_cons zs k h, run, if_neg h1]

end Go.Proofs.Qxb6600502a.Num
