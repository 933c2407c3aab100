import Derived.Test.Qxb6600502aLaw3
import Derived.Test.Qxb6600502aNum4
namespace Go.Proofs.Qxb6600502a
open Go.RowKit

theorem cont_any (c : Int) (b : Bool) (hb : Num.cont c = b) (w : World) :
    Calls Try.prog 15 #[.int .u8 c] w fun e w' => e = .returned (.bool b) ∧ w' = w := by
  have HB : Hid (Num.cont c = b) := hb
  clear hb
  by_cases h1 : 48 ≤ c
  · by_cases h2 : c ≤ 57
    · obtain rfl : b = true := by rw [← HB.out]; simp [Num.cont, h1, h2]
      go_enter Try.func15, Try.ntmps15
      go_wp2
      go_ret
      exact ⟨rfl, rfl⟩
    · by_cases h3 : c = 101
      · obtain rfl : b = true := by rw [← HB.out, h3]; rfl
        subst h3
        go_enter Try.func15, Try.ntmps15
        go_wp2
        go_ret
        exact ⟨rfl, rfl⟩
      by_cases h4 : c = 69
      · obtain rfl : b = true := by rw [← HB.out, h4]; rfl
        subst h4
        go_enter Try.func15, Try.ntmps15
        go_wp2
        go_ret
        exact ⟨rfl, rfl⟩
      · obtain rfl : b = false := by rw [← HB.out]; simp [Num.cont]; omega
        have e1 : (c == 101) = false := by simp [h3]
        have e2 : (c == 69) = false := by simp [h4]
        have e3 : (c == 46) = false := by simp; omega
        clear h3 h4
        go_enter Try.func15, Try.ntmps15
        go_wp2
        go_ret
        exact ⟨rfl, rfl⟩
  · by_cases h3 : c = 46
    · obtain rfl : b = true := by rw [← HB.out, h3]; rfl
      subst h3
      go_enter Try.func15, Try.ntmps15
      go_wp2
      go_ret
      exact ⟨rfl, rfl⟩
    · obtain rfl : b = false := by rw [← HB.out]; simp [Num.cont]; omega
      have e1 : (c == 101) = false := by simp; omega
      have e2 : (c == 69) = false := by simp; omega
      have e3 : (c == 46) = false := by simp [h3]
      clear h3
      go_enter Try.func15, Try.ntmps15
      go_wp2
      go_ret
      exact ⟨rfl, rfl⟩

theorem zzbytes14 (a : Option Addr) (len cap : Nat) (c : Int) (w : World) (h : len ≤ 1048576) :
    Calls Try.prog 14 #[.slice a len cap, .int .u8 c] w fun e w' => e = .returned (.bool true) ∧ w' = w := by
  go_enter Try.func14, Try.ntmps14
  go_wp2
  go_ret
  exact ⟨rfl, rfl⟩

set_option maxHeartbeats 400000 in
theorem law4_long (a : Option Addr) (len cap : Nat) (c : Int) (w : World) (h : 1048576 < len) (hm : len ≤ maxLen) :
    Calls Try.prog 4 #[.slice a len cap, .int .u8 c] w fun e w' => e = .returned (.bool true) ∧ w' = w := by
  unfold maxLen at hm
  go_enter Try.func4, Try.ntmps4
  go_wp2
  go_ret
  exact ⟨rfl, rfl⟩

set_option maxHeartbeats 400000 in
theorem law4_short (a : Option Addr) (cap : Nat) (c : Int) (w : World) :
    Calls Try.prog 4 #[.slice a 0 cap, .int .u8 c] w fun e w' => e = .returned (.bool true) ∧ w' = w := by
  go_enter Try.func4, Try.ntmps4
  go_wp2
  go_ret
  exact ⟨rfl, rfl⟩

set_option maxHeartbeats 400000 in
theorem law4_cont (a : Option Addr) (len cap : Nat) (c : Int) (w : World) (h1 : 1 ≤ len) (h2 : len ≤ 1048576) (hc : Num.cont c = true) :
    Calls Try.prog 4 #[.slice a len cap, .int .u8 c] w fun e w' => e = .returned (.bool true) ∧ w' = w := by
  have HC : Hid (Num.cont c = true) := hc
  clear hc
  have h3 : ((len : Int) == 0) = false := by simp; omega
  go_enter Try.func4, Try.ntmps4
  go_wp2_with fail
  refine (zzbytes14 _ _ _ _ _ h2).mono ?_
  rintro e w' ⟨rfl, rfl⟩
  go_wp2_with fail
  refine (cont_any c true HC.out _).mono ?_
  rintro e w' ⟨rfl, rfl⟩
  go_wp2
  go_ret
  exact ⟨rfl, rfl⟩

theorem BytesAt.take {w : World} {g n : Nat} {zs : List Int} (h : BytesAt w g zs) : BytesAt w g (zs.take n) := by
  intro j hj
  have hj2 : j < n ∧ j < zs.length := by simp at hj; omega
  rw [h j hj2.2, List.getElem?_take_of_lt hj2.1]

theorem cellsOf {w : World} {g : Nat} {zs : List Int} (h : BytesAt w g zs) : ∀ i, i < zs.length → w.cell? ((⟨g, 0, none⟩ : Addr).add i) = some (.int .u8 (zs.getD i 0)) := by
  intro i hi
  have hadd : (⟨g, 0, none⟩ : Addr).add i = ⟨g, i, none⟩ := by unfold Addr.add; split <;> simp_all
  rw [hadd, h i hi]; simp

theorem ext_row (zs : List Int) (n : Nat) (c : Int) (hn : n ≤ zs.length) :
    (List.take 0 (List.replicate (n + 1) (0 : Int)) ++ (zs.take n ++ List.drop (0 + (zs.take n).length) (List.replicate (n + 1) 0))).set n c = zs.take n ++ [c] := by
  have e : (zs.take n).length = n := by simp; omega
  simp only [List.take_zero, List.nil_append, Nat.zero_add, e, List.drop_replicate, show n + 1 - n = 1 by omega]
  rw [List.set_append_right _ _ (by omega)]
  simp [e]

set_option maxHeartbeats 400000 in
theorem law4_none (x : Addr) (L cap : Nat) (zs : List Int) (c : Int) (w : World) (hL : zs.length = L) (h1 : 1 ≤ L) (h2 : L ≤ 1048576)
    (hc : ∀ i, i < zs.length → w.cell? (x.add i) = some (.int .u8 (zs.getD i 0))) (hcc : Num.cont c = false) (hs : Num.scan zs = none) :
    Calls Try.prog 4 #[.slice (some x) L cap, .int .u8 c] w fun e w' => e = .returned (.bool true) ∧ Below w.heap.size w w' := by
  have HL : Hid (zs.length = L) := hL
  have HC : Hid (∀ i, i < zs.length → w.cell? (x.add i) = some (.int .u8 (zs.getD i 0))) := hc
  have HCC : Hid (Num.cont c = false) := hcc
  have HS : Hid (Num.ans (Num.scan zs) = -1) := by show _ = _; rw [hs]; rfl
  clear hL hc hcc hs
  have h3 : ((L : Int) == 0) = false := by simp; omega
  go_enter Try.func4, Try.ntmps4
  go_wp2_with fail
  refine (zzbytes14 _ _ _ _ _ h2).mono ?_
  rintro e w' ⟨rfl, rfl⟩
  go_wp2_with fail
  refine (cont_any c false HCC.out _).mono ?_
  rintro e w' ⟨rfl, rfl⟩
  go_wp2_with fail
  refine (clone_any x L cap zs w' HL.out h2 HC.out).mono ?_
  rintro e w1 ⟨rfl, hr1, hs1, hb1⟩
  have HR1 : Hid (RowB w1 w'.heap.size zs) := hr1
  have HB1 : Hid (Below w'.heap.size w' w1) := hb1
  clear hr1 hs1 hb1
  go_wp2_with fail
  refine (zzscan_any w'.heap.size L L zs (-1) w1 HL.out (by omega) h1 HR1.out.bytes HS.out).mono ?_
  rintro e w2 ⟨rfl, rfl⟩
  go_wp2
  go_ret
  exact ⟨rfl, HB1.out⟩

set_option maxHeartbeats 400000 in
theorem law4_some (x : Addr) (L cap n : Nat) (zs : List Int) (c : Int) (w : World) (hL : zs.length = L) (h1 : 1 ≤ L) (h2 : L ≤ 1048576)
    (hc : ∀ i, i < zs.length → w.cell? (x.add i) = some (.int .u8 (zs.getD i 0))) (hcc : Num.cont c = false) (hs : Num.scan zs = some n) :
    Calls Try.prog 4 #[.slice (some x) L cap, .int .u8 c] w fun e w' => e = .returned (.bool true) ∧ Below w.heap.size w w' := by
  obtain ⟨n1, n2, hs2, hs3⟩ := Num.scan_stable zs n (by omega) hs
  rw [hL] at n2
  have HL : Hid (zs.length = L) := hL
  have HC : Hid (∀ i, i < zs.length → w.cell? (x.add i) = some (.int .u8 (zs.getD i 0))) := hc
  have HS2 : Hid (Num.ans (Num.scan (zs.take n)) = (n : Int)) := by show _ = _; rw [hs2]; rfl
  have HS3 : Hid (Num.ans (Num.scan (zs.take n ++ [c])) = (n : Int)) := by show _ = _; rw [hs3 c hcc]; rfl
  have HCC : Hid (Num.cont c = false) := hcc
  have HS : Hid (Num.ans (Num.scan zs) = (n : Int)) := by show _ = _; rw [hs]; rfl
  clear hL hc hcc hs hs2 hs3
  have h3 : ((L : Int) == 0) = false := by simp; omega
  have h4 : ((n : Int) == -1) = false := by simp
  have hmk := fun w => run_make_row' (P := Try.prog) 22 5 (.int .u8 0) 1 Try.underlying22 info5 rfl .i64 .i64 (n + 1) (by omega) (by omega) w
  rw [show ((n + 1 : Nat) : Int) = (n : Int) + 1 by omega] at hmk
  go_enter Try.func4, Try.ntmps4
  go_wp2_with fail
  refine (zzbytes14 _ _ _ _ _ h2).mono ?_
  rintro e w' ⟨rfl, rfl⟩
  go_wp2_with fail
  refine (cont_any c false HCC.out _).mono ?_
  rintro e w' ⟨rfl, rfl⟩
  go_wp2_with fail
  refine (clone_any x L cap zs w' HL.out h2 HC.out).mono ?_
  rintro e w1 ⟨rfl, hr1, hs1, hb1⟩
  have HR1 : Hid (RowB w1 w'.heap.size zs) := hr1
  have HS1 : Hid (w1.heap.size = w'.heap.size + 1) := hs1
  have HB1 : Hid (Below w'.heap.size w' w1) := hb1
  clear hr1 hs1 hb1
  go_wp2_with fail
  refine (zzscan_any w'.heap.size L L zs n w1 HL.out (by omega) h1 HR1.out.bytes HS.out).mono ?_
  rintro e w2 ⟨rfl, rfl⟩
  go_wp2_with fail
  refine (zzscan_any w'.heap.size n L (zs.take n) n w2 (by have := HL.out; simp; omega) (by omega) n1 HR1.out.bytes.take HS2.out).mono ?_
  rintro e w3 ⟨rfl, rfl⟩
  go_wp2_with (with_reducible refine wpl_copy Try.underlying22 size5 w3.heap.size 0 (n + 1) (n + 1) ⟨w'.heap.size, 0, none⟩ n L ?c1 ?c2 (List.replicate (n + 1) 0) ?c3 (zs.take n) ?c4 ?c5 ?c6 ?_)
  case c1 => rfl
  case c2 => rfl
  case c3 => unfold RowB; rw [heap_alloc_new]; simp [madeCells_zero]
  case c4 => have := HL.out; simp; omega
  case c5 =>
    intro j hj
    have h := cellsOf (HR1.out.bytes.take (n := n)) j hj
    rw [← h]
    exact World.cell?_of_block (Below.heap_alloc w3 _ _ (block_lt_of_cell h))
  case c6 => have := HL.out; simp; omega
  intro w4 hr4 hw4
  have HR4 : Hid (RowB w4 w3.heap.size _) := hr4
  have HW4 : Hid (Wrote w3.heap.size (w3.alloc (.cells (madeCells #[.int .u8 0] (n + 1)) 5)) w4) := hw4
  clear hr4 hw4 hmk
  have hlen : (List.take 0 (List.replicate (n + 1) (0 : Int)) ++ (zs.take n ++ List.drop (0 + (zs.take n).length) (List.replicate (n + 1) 0))).length = n + 1 := by
    have := HL.out; simp; omega
  have hcl := HR4.out.cell (j := n) (by rw [hlen]; omega)
  obtain ⟨v, hv⟩ : ∃ v, w4.cell? ⟨w3.heap.size, n, none⟩ = some v := ⟨_, hcl⟩
  have hfr := HR4.out.free n
  have hset := HR4.out.set n c
  rw [ext_row zs n c (by have := HL.out; omega)] at hset
  have HSET : Hid (RowB (w4.setCell ⟨w3.heap.size, n, none⟩ (.int .u8 c)) w3.heap.size (zs.take n ++ [c])) := hset
  clear hset hcl hlen
  go_wp2_with fail
  refine (zzscan_any w3.heap.size (n + 1) (n + 1) (zs.take n ++ [c]) n _ (by have := HL.out; simp; omega) (by omega) (by omega) HSET.out.bytes HS3.out).mono ?_
  rintro e w5 ⟨rfl, rfl⟩
  go_wp2
  go_ret
  refine ⟨rfl, ?_⟩
  have hs1 := HS1.out
  exact ((HB1.out.trans ((Below.refl _ _).alloc (by omega) _)).trans (HW4.out.below (by omega))).setCell (by show _ ≤ w3.heap.size; omega) _

theorem law4_any (a : Option Addr) (len cap : Nat) (zs : List Int) (c : Int) (w : World)
    (h : (a = none ∧ len = 0 ∧ cap = 0 ∧ zs = []) ∨ ∃ x, a = some x ∧ len ≤ cap ∧ cap ≤ maxLen ∧ zs.length = cap ∧ (∀ i, i < zs.length → w.cell? (x.add i) = some (.int .u8 (zs.getD i 0))) ∧ ∀ n ∈ zs, (Lit.int .u8 n).wf = true) :
    Calls Try.prog 4 #[.slice a len cap, .int .u8 c] w fun e w' => e = .returned (.bool true) ∧ Below w.heap.size w w' := by
  rcases h with ⟨rfl, rfl, rfl, rfl⟩ | ⟨x, rfl, hlc, hcm, hz, hc, _⟩
  · refine (law4_short none 0 c w).mono ?_
    rintro e w' ⟨he, rfl⟩
    exact ⟨he, Below.refl _ _⟩
  · by_cases c1 : len = 0
    · subst c1
      refine (law4_short (some x) cap c w).mono ?_
      rintro e w' ⟨he, rfl⟩
      exact ⟨he, Below.refl _ _⟩
    by_cases c2 : 1048576 < len
    · refine (law4_long (some x) len cap c w c2 (by omega)).mono ?_
      rintro e w' ⟨he, rfl⟩
      exact ⟨he, Below.refl _ _⟩
    cases hcc : Num.cont c
    · cases hs : Num.scan (zs.take len) with
      | none => exact law4_none x len cap (zs.take len) c w (by simp; omega) (by omega) (by omega) (take_cells (by omega) hc) hcc hs
      | some n => exact law4_some x len cap n (zs.take len) c w (by simp; omega) (by omega) (by omega) (take_cells (by omega) hc) hcc hs
    · refine (law4_cont (some x) len cap c w (by omega) (by omega) hcc).mono ?_
      rintro e w' ⟨he, rfl⟩
      exact ⟨he, Below.refl _ _⟩
end Go.Proofs.Qxb6600502a
