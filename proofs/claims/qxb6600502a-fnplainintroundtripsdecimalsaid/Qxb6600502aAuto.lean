import Derived.Test.Qxb6600502aRows
import Derived.WalkKit
import Derived.Test.Qxb6600502aNum2
namespace Go.Proofs.Qxb6600502a
open Go.RowKit

theorem ret_of {k : IntKind} {a b : Int} (h : a = b) : Ending.returned (.int k a) = .returned (.int k b) := by rw [h]

theorem hide {p : Prop} (h : p) : Hid p := h

set_option maxHeartbeats 1000000 in
theorem step_0 (c R : Int) (w : World) (hR : R = Num.stp 0 c) :
    Calls Try.prog 26 #[.int .i64 0, .int .u8 c] w fun e w' => e = .returned (.int .i64 R) ∧ w' = w := by
  have HR : Hid (R = Num.stp 0 c) := hR
  clear hR
  rcases Num.cat c with rfl | rfl | h | rfl | rfl | rfl | rfl | h | h
  case' inr.inr.inl => have HC := hide h; obtain ⟨h1, h2, h3, h4, h5, h6, h7, h8⟩ := h
  case' inr.inr.inr.inr.inr.inr.inr.inl => have HC := hide h; obtain ⟨h1, h2, h3, h4, h5, h6, h7⟩ := h
  case' inr.inr.inr.inr.inr.inr.inr.inr => have HC := hide h; obtain ⟨h1, h2, h3, h4, h5, h6, h7⟩ := h
  all_goals
    go_enter Try.func26, Try.ntmps26
    go_wp2
    go_ret
    refine ⟨ret_of ?_, rfl⟩
    first
      | exact HR.out.symm
      | (rw [HR.out]; simp only [Num.stp]; (repeat' split) <;> omega)
      | (rw [HR.out]; have hc := HC.out; simp only [beq_eq_false_iff_ne, ne_eq] at hc; simp only [Num.stp]; (repeat' split) <;> omega)

set_option maxHeartbeats 1000000 in
theorem step_1 (c R : Int) (w : World) (hR : R = Num.stp 1 c) :
    Calls Try.prog 26 #[.int .i64 1, .int .u8 c] w fun e w' => e = .returned (.int .i64 R) ∧ w' = w := by
  have HR : Hid (R = Num.stp 1 c) := hR
  clear hR
  rcases Num.cat c with rfl | rfl | h | rfl | rfl | rfl | rfl | h | h
  case' inr.inr.inl => have HC := hide h; obtain ⟨h1, h2, h3, h4, h5, h6, h7, h8⟩ := h
  case' inr.inr.inr.inr.inr.inr.inr.inl => have HC := hide h; obtain ⟨h1, h2, h3, h4, h5, h6, h7⟩ := h
  case' inr.inr.inr.inr.inr.inr.inr.inr => have HC := hide h; obtain ⟨h1, h2, h3, h4, h5, h6, h7⟩ := h
  all_goals
    go_enter Try.func26, Try.ntmps26
    go_wp2
    go_ret
    refine ⟨ret_of ?_, rfl⟩
    first
      | exact HR.out.symm
      | (rw [HR.out]; simp only [Num.stp]; (repeat' split) <;> omega)
      | (rw [HR.out]; have hc := HC.out; simp only [beq_eq_false_iff_ne, ne_eq] at hc; simp only [Num.stp]; (repeat' split) <;> omega)

set_option maxHeartbeats 1000000 in
theorem step_2 (c R : Int) (w : World) (hR : R = Num.stp 2 c) :
    Calls Try.prog 26 #[.int .i64 2, .int .u8 c] w fun e w' => e = .returned (.int .i64 R) ∧ w' = w := by
  have HR : Hid (R = Num.stp 2 c) := hR
  clear hR
  rcases Num.cat c with rfl | rfl | h | rfl | rfl | rfl | rfl | h | h
  case' inr.inr.inl => have HC := hide h; obtain ⟨h1, h2, h3, h4, h5, h6, h7, h8⟩ := h
  case' inr.inr.inr.inr.inr.inr.inr.inl => have HC := hide h; obtain ⟨h1, h2, h3, h4, h5, h6, h7⟩ := h
  case' inr.inr.inr.inr.inr.inr.inr.inr => have HC := hide h; obtain ⟨h1, h2, h3, h4, h5, h6, h7⟩ := h
  all_goals
    go_enter Try.func26, Try.ntmps26
    go_wp2
    go_ret
    refine ⟨ret_of ?_, rfl⟩
    first
      | exact HR.out.symm
      | (rw [HR.out]; simp only [Num.stp]; (repeat' split) <;> omega)
      | (rw [HR.out]; have hc := HC.out; simp only [beq_eq_false_iff_ne, ne_eq] at hc; simp only [Num.stp]; (repeat' split) <;> omega)

set_option maxHeartbeats 1000000 in
theorem step_3 (c R : Int) (w : World) (hR : R = Num.stp 3 c) :
    Calls Try.prog 26 #[.int .i64 3, .int .u8 c] w fun e w' => e = .returned (.int .i64 R) ∧ w' = w := by
  have HR : Hid (R = Num.stp 3 c) := hR
  clear hR
  rcases Num.cat c with rfl | rfl | h | rfl | rfl | rfl | rfl | h | h
  case' inr.inr.inl => have HC := hide h; obtain ⟨h1, h2, h3, h4, h5, h6, h7, h8⟩ := h
  case' inr.inr.inr.inr.inr.inr.inr.inl => have HC := hide h; obtain ⟨h1, h2, h3, h4, h5, h6, h7⟩ := h
  case' inr.inr.inr.inr.inr.inr.inr.inr => have HC := hide h; obtain ⟨h1, h2, h3, h4, h5, h6, h7⟩ := h
  all_goals
    go_enter Try.func26, Try.ntmps26
    go_wp2
    go_ret
    refine ⟨ret_of ?_, rfl⟩
    first
      | exact HR.out.symm
      | (rw [HR.out]; simp only [Num.stp]; (repeat' split) <;> omega)
      | (rw [HR.out]; have hc := HC.out; simp only [beq_eq_false_iff_ne, ne_eq] at hc; simp only [Num.stp]; (repeat' split) <;> omega)

set_option maxHeartbeats 1000000 in
theorem step_4 (c R : Int) (w : World) (hR : R = Num.stp 4 c) :
    Calls Try.prog 26 #[.int .i64 4, .int .u8 c] w fun e w' => e = .returned (.int .i64 R) ∧ w' = w := by
  have HR : Hid (R = Num.stp 4 c) := hR
  clear hR
  rcases Num.cat c with rfl | rfl | h | rfl | rfl | rfl | rfl | h | h
  case' inr.inr.inl => have HC := hide h; obtain ⟨h1, h2, h3, h4, h5, h6, h7, h8⟩ := h
  case' inr.inr.inr.inr.inr.inr.inr.inl => have HC := hide h; obtain ⟨h1, h2, h3, h4, h5, h6, h7⟩ := h
  case' inr.inr.inr.inr.inr.inr.inr.inr => have HC := hide h; obtain ⟨h1, h2, h3, h4, h5, h6, h7⟩ := h
  all_goals
    go_enter Try.func26, Try.ntmps26
    go_wp2
    go_ret
    refine ⟨ret_of ?_, rfl⟩
    first
      | exact HR.out.symm
      | (rw [HR.out]; simp only [Num.stp]; (repeat' split) <;> omega)
      | (rw [HR.out]; have hc := HC.out; simp only [beq_eq_false_iff_ne, ne_eq] at hc; simp only [Num.stp]; (repeat' split) <;> omega)

set_option maxHeartbeats 1000000 in
theorem step_5 (c R : Int) (w : World) (hR : R = Num.stp 5 c) :
    Calls Try.prog 26 #[.int .i64 5, .int .u8 c] w fun e w' => e = .returned (.int .i64 R) ∧ w' = w := by
  have HR : Hid (R = Num.stp 5 c) := hR
  clear hR
  rcases Num.cat c with rfl | rfl | h | rfl | rfl | rfl | rfl | h | h
  case' inr.inr.inl => have HC := hide h; obtain ⟨h1, h2, h3, h4, h5, h6, h7, h8⟩ := h
  case' inr.inr.inr.inr.inr.inr.inr.inl => have HC := hide h; obtain ⟨h1, h2, h3, h4, h5, h6, h7⟩ := h
  case' inr.inr.inr.inr.inr.inr.inr.inr => have HC := hide h; obtain ⟨h1, h2, h3, h4, h5, h6, h7⟩ := h
  all_goals
    go_enter Try.func26, Try.ntmps26
    go_wp2
    go_ret
    refine ⟨ret_of ?_, rfl⟩
    first
      | exact HR.out.symm
      | (rw [HR.out]; simp only [Num.stp]; (repeat' split) <;> omega)
      | (rw [HR.out]; have hc := HC.out; simp only [beq_eq_false_iff_ne, ne_eq] at hc; simp only [Num.stp]; (repeat' split) <;> omega)

set_option maxHeartbeats 1000000 in
theorem step_6 (c R : Int) (w : World) (hR : R = Num.stp 6 c) :
    Calls Try.prog 26 #[.int .i64 6, .int .u8 c] w fun e w' => e = .returned (.int .i64 R) ∧ w' = w := by
  have HR : Hid (R = Num.stp 6 c) := hR
  clear hR
  rcases Num.cat c with rfl | rfl | h | rfl | rfl | rfl | rfl | h | h
  case' inr.inr.inl => have HC := hide h; obtain ⟨h1, h2, h3, h4, h5, h6, h7, h8⟩ := h
  case' inr.inr.inr.inr.inr.inr.inr.inl => have HC := hide h; obtain ⟨h1, h2, h3, h4, h5, h6, h7⟩ := h
  case' inr.inr.inr.inr.inr.inr.inr.inr => have HC := hide h; obtain ⟨h1, h2, h3, h4, h5, h6, h7⟩ := h
  all_goals
    go_enter Try.func26, Try.ntmps26
    go_wp2
    go_ret
    refine ⟨ret_of ?_, rfl⟩
    first
      | exact HR.out.symm
      | (rw [HR.out]; simp only [Num.stp]; (repeat' split) <;> omega)
      | (rw [HR.out]; have hc := HC.out; simp only [beq_eq_false_iff_ne, ne_eq] at hc; simp only [Num.stp]; (repeat' split) <;> omega)

set_option maxHeartbeats 1000000 in
theorem step_7 (c R : Int) (w : World) (hR : R = Num.stp 7 c) :
    Calls Try.prog 26 #[.int .i64 7, .int .u8 c] w fun e w' => e = .returned (.int .i64 R) ∧ w' = w := by
  have HR : Hid (R = Num.stp 7 c) := hR
  clear hR
  rcases Num.cat c with rfl | rfl | h | rfl | rfl | rfl | rfl | h | h
  case' inr.inr.inl => have HC := hide h; obtain ⟨h1, h2, h3, h4, h5, h6, h7, h8⟩ := h
  case' inr.inr.inr.inr.inr.inr.inr.inl => have HC := hide h; obtain ⟨h1, h2, h3, h4, h5, h6, h7⟩ := h
  case' inr.inr.inr.inr.inr.inr.inr.inr => have HC := hide h; obtain ⟨h1, h2, h3, h4, h5, h6, h7⟩ := h
  all_goals
    go_enter Try.func26, Try.ntmps26
    go_wp2
    go_ret
    refine ⟨ret_of ?_, rfl⟩
    first
      | exact HR.out.symm
      | (rw [HR.out]; simp only [Num.stp]; (repeat' split) <;> omega)
      | (rw [HR.out]; have hc := HC.out; simp only [beq_eq_false_iff_ne, ne_eq] at hc; simp only [Num.stp]; (repeat' split) <;> omega)

set_option maxHeartbeats 1000000 in
theorem step_8 (c R : Int) (w : World) (hR : R = Num.stp 8 c) :
    Calls Try.prog 26 #[.int .i64 8, .int .u8 c] w fun e w' => e = .returned (.int .i64 R) ∧ w' = w := by
  have HR : Hid (R = Num.stp 8 c) := hR
  clear hR
  rcases Num.cat c with rfl | rfl | h | rfl | rfl | rfl | rfl | h | h
  case' inr.inr.inl => have HC := hide h; obtain ⟨h1, h2, h3, h4, h5, h6, h7, h8⟩ := h
  case' inr.inr.inr.inr.inr.inr.inr.inl => have HC := hide h; obtain ⟨h1, h2, h3, h4, h5, h6, h7⟩ := h
  case' inr.inr.inr.inr.inr.inr.inr.inr => have HC := hide h; obtain ⟨h1, h2, h3, h4, h5, h6, h7⟩ := h
  all_goals
    go_enter Try.func26, Try.ntmps26
    go_wp2
    go_ret
    refine ⟨ret_of ?_, rfl⟩
    first
      | exact HR.out.symm
      | (rw [HR.out]; simp only [Num.stp]; (repeat' split) <;> omega)
      | (rw [HR.out]; have hc := HC.out; simp only [beq_eq_false_iff_ne, ne_eq] at hc; simp only [Num.stp]; (repeat' split) <;> omega)

end Go.Proofs.Qxb6600502a
