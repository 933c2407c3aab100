import Derived.Test.Qxb6600855aOf
namespace Go.Proofs.Qxb6600855a
open Go.RowKit

set_option maxHeartbeats 400000 in
theorem zz_old (B g n cap : Nat) (ys : List Int) (z : Int) (w : World) (hm : n ≤ 5000) (hs : Sty w B (some ⟨g, 0, none⟩) n cap ys) (hz : z ∈ ys) :
    Calls Try.prog 10 #[.slice (some ⟨g, 0, none⟩) n cap, .int .i64 z] w fun e w' => ∃ i : Nat, i < n ∧ ys[i]?.getD 0 = z ∧ e = .returned (.tuple #[.slice (some ⟨g, 0, none⟩) n cap, .int .i64 ((i + 1 : Nat) : Int)]) ∧ w.grownBy w' none := by
  have HS : Hid (Sty w B (some ⟨g, 0, none⟩) n cap ys) := hs
  have HZ : Hid (z ∈ ys) := hz
  clear hs hz
  go_enter Try.func10, Try.ntmps10
  go_wp2_with fail
  have HP : Hid ((w.alloc (.cells #[.slice (some ⟨g, 0, none⟩) n cap] 35)).heap[w.heap.size]? = some (.cells #[.slice (some ⟨g, 0, none⟩) n cap] 35 (0, 0))) := heap_alloc_new w _
  have hcp := cell_of_row _ w.heap.size 0 _ 35 (0, 0) HP.out
  have HS1 : Hid (Sty (w.alloc (.cells #[.slice (some ⟨g, 0, none⟩) n cap] 35)) B (some ⟨g, 0, none⟩) n cap ys) := World.ownsRow.alloc HS.out _
  have HC1 : Hid (∀ j, j < ys.length → (w.alloc (.cells #[.slice (some ⟨g, 0, none⟩) n cap] 35)).cell? ⟨g, j, none⟩ = some (.int .i64 (ys[j]?.getD 0))) := by
    rcases HS1.out.ints with ⟨h, _⟩ | ⟨g2, h, hc⟩
    · cases h
    · simp only [Option.some.injEq, Addr.mk.injEq] at h
      intro j hj
      have h2 := hc j hj
      rw [← h.1] at h2
      exact h2
  refine (of_old w.heap.size g n cap ys z _ HS1.out.length hm hcp HC1.out HZ.out).mono ?_
  rintro e w1 ⟨i, hi, hiz, rfl, hw1⟩
  have HIZ : Hid (ys[i]?.getD 0 = z) := hiz
  have hc1 : w1.cell? ⟨w.heap.size, 0, none⟩ = some (.slice (some ⟨g, 0, none⟩) n cap) := by rw [hw1]; exact hcp
  have HG : Hid (w.grownBy w1 none) := by show World.grownBy _ _ _; rw [hw1]; exact World.grownBy_alloc w _ none
  clear hw1 hcp hiz
  go_wp2
  go_ret2
  exact ⟨i, hi, HIZ.out, rfl, HG.out⟩

set_option maxHeartbeats 400000 in
theorem zz_new (B n cap : Nat) (a : Option Addr) (ys : List Int) (z : Int) (w : World) (hm : n ≤ 5000) (hs : Sty w B a n cap ys) (hB : B ≤ w.heap.size) (hz : ∀ j, j < ys.length → ys[j]?.getD 0 ≠ z) :
    Calls Try.prog 10 #[.slice a n cap, .int .i64 z] w fun e w' => ∃ g' cap', e = .returned (.tuple #[.slice (some ⟨g', 0, none⟩) (n + 1) cap', .int .i64 ((n + 1 : Nat) : Int)]) ∧
      Sty w' B (some ⟨g', 0, none⟩) (n + 1) cap' (ys ++ [z]) ∧ w.grownBy w' (Value.slice a n cap).ownBlock := by
  have HS : Hid (Sty w B a n cap ys) := hs
  have HZ : Hid (∀ j, j < ys.length → ys[j]?.getD 0 ≠ z) := hz
  clear hs hz
  go_enter Try.func10, Try.ntmps10
  go_wp2_with fail
  have HP : Hid ((w.alloc (.cells #[.slice a n cap] 35)).heap[w.heap.size]? = some (.cells #[.slice a n cap] 35 (0, 0))) := heap_alloc_new w _
  have HS1 : Hid (Sty (w.alloc (.cells #[.slice a n cap] 35)) B a n cap ys) := World.ownsRow.alloc HS.out _
  refine (of_new w.heap.size B n cap a ys z _ hm HP.out HS1.out (by simp; omega) HZ.out).mono ?_
  rintro e w1 ⟨rfl, g', cap', hp1, hs1, ht⟩
  have hc1 : w1.cell? ⟨w.heap.size, 0, none⟩ = some (.slice (some ⟨g', 0, none⟩) (n + 1) cap') := cell_of_row w1 w.heap.size 0 _ 35 (0, 0) hp1
  have HS2 : Hid (Sty w1 B (some ⟨g', 0, none⟩) (n + 1) cap' (ys ++ [z])) := hs1
  have HG : Hid (w.grownBy w1 (Value.slice a n cap).ownBlock) :=
    ⟨ht.os, ht.tape, ht.output, by have := ht.size; simp at this; omega, fun k hk hne => by rw [ht.block k (by simp; omega) (by omega) hne]; exact Below.heap_alloc w _ k hk⟩
  clear hp1 hs1 ht
  go_wp2
  go_ret2
  exact ⟨g', cap', rfl, HS2.out, HG.out⟩
end Go.Proofs.Qxb6600855a
