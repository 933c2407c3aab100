import Derived.Test.Qxb6600855aRows
import Derived.WalkKit
import Derived.WalkSpells
import Derived.WalkLawsBesides
import Derived.Deep.OwnRows
import Derived.BigQuiet
import Derived.Deep.QuietTactic
import Derived.Handy
namespace Go.Proofs.Qxb6600855a
open Go.RowKit

theorem info3 : (Try.prog.info? 3).map (fun i => (i.zero, i.size, i.bytes)) = some (some (.int .i64 0), 1, 8) := by kernel_rfl
theorem ret_int {k : IntKind} {a b : Int} (h : a = b) : Ending.returned (.int k a) = .returned (.int k b) := by rw [h]

/-- block 'g' is a row of ints that may be written -/
def RowI (w : World) (g : Nat) (zs : List Int) : Prop := w.heap[g]? = some (.cells (zs.map (Value.int .i64)).toArray 3 (0, 0))

theorem RowI.lt {w : World} {g : Nat} {zs : List Int} (h : RowI w g zs) : g < w.heap.size := (Array.getElem?_eq_some_iff.1 h).1
theorem RowI.cell {w : World} {g : Nat} {zs : List Int} (h : RowI w g zs) {j : Nat} (hj : j < zs.length) : w.cell? ⟨g, j, none⟩ = some (.int .i64 (zs[j]?.getD 0)) := by
  rw [cell_of_row w g j _ 3 (0, 0) h]
  simp [hj]
theorem RowI.free {w : World} {g : Nat} {zs : List Int} (h : RowI w g zs) (j : Nat) : w.frozen? ⟨g, j, none⟩ = false := frozen_of_row w g j _ 3 h
theorem RowI.of_block {w w' : World} {g : Nat} {zs : List Int} (h : RowI w g zs) (e : w'.heap[g]? = w.heap[g]?) : RowI w' g zs := by
  unfold RowI; rw [e]; exact h
theorem RowI.set {w : World} {g : Nat} {zs : List Int} (h : RowI w g zs) (i : Nat) (n : Int) : RowI (w.setCell ⟨g, i, none⟩ (.int .i64 n)) g (zs.set i n) := by
  have h2 := heap_setCell_same w g i _ 3 (.int .i64 n) h
  unfold RowI
  rw [h2]
  simp [List.map_set]

theorem madeCells_zero (z : Value) (n : Nat) : madeCells #[z] n = (List.replicate n z).toArray := by
  apply Array.ext
  · simp [size_madeCells]
  · intro i h1 h2
    simp [madeCells, Nat.mod_one]

theorem made_rowI (w : World) (n : Nat) : RowI (w.alloc (.cells (madeCells #[.int .i64 0] n) 3)) w.heap.size (List.replicate n 0) := by
  unfold RowI; rw [heap_alloc_new]; simp [madeCells_zero]

/-- the first k of zs copied, zeros behind -/
def part (zs : List Int) (k : Nat) : List Int := zs.take k ++ List.replicate (zs.length - k) 0

theorem part_set (zs : List Int) (k : Nat) (h : k < zs.length) : (part zs k).set k (zs[k]?.getD 0) = part zs (k + 1) := by
  unfold part
  have e : zs.length - k = (zs.length - (k + 1)) + 1 := by omega
  have el : (zs.take k).length = k := by simp; omega
  rw [List.set_append_right _ _ (by omega), el, Nat.sub_self, e, List.replicate_succ, List.set_cons_zero, List.take_succ_eq_append_getElem h, List.append_assoc]
  have ec : zs[k]?.getD 0 = zs[k] := by simp [h]
  rw [ec]
  rfl

theorem part_length (zs : List Int) (k : Nat) (h : k ≤ zs.length) : (part zs k).length = zs.length := by simp [part]; omega
theorem part_all (zs : List Int) (k : Nat) (h : zs.length ≤ k) : part zs k = zs := by
  unfold part
  rw [List.take_of_length_le h, show zs.length - k = 0 by omega]
  simp

set_option maxHeartbeats 400000 in
theorem clone_some (x : Addr) (len cap : Nat) (zs : List Int) (w : World) (hz : zs.length = len) (hm : len ≤ 1048576)
    (hc : ∀ i, i < zs.length → w.cell? (x.add i) = some (.int .i64 (zs.getD i 0))) :
    Calls Try.prog 8 #[.slice (some x) len cap] w fun e w' => e = .returned (.slice (some ⟨w.heap.size, 0, none⟩) len len) ∧
      RowI w' w.heap.size zs ∧ w'.heap.size = w.heap.size + 1 ∧ Below w.heap.size w w' := by
  have hmk := fun w => run_make_row' (P := Try.prog) 26 3 (.int .i64 0) 8 Try.underlying26 info3 rfl .i64 .i64 len (by omega) (by omega) w
  have hnil := fun w => Lib.run_eql_slice_nil (P := Try.prog) w 26 3 (some x) len cap 0 0 Try.underlying26
  have HZ : Hid (zs.length = len) := hz
  have HC : Hid (∀ i, i < zs.length → w.cell? (x.add i) = some (.int .i64 (zs.getD i 0))) := hc
  clear hz hc
  go_enter Try.func8, Try.ntmps8
  go_wp2_with fail
  go_loopw [4] (fun v wr => ∃ k : Nat, k ≤ len ∧ v = .int .i64 k ∧ Hid (RowI wr w.heap.size (part zs k)) ∧ Hid (wr.heap.size = w.heap.size + 1) ∧ Hid (Below w.heap.size w wr)) (fun v _ => len - (intOf v).toNat)
  case atStart =>
    refine ⟨0, Nat.zero_le _, rfl, ?_, ?_, (Below.refl _ _).alloc (Nat.le_refl _) _⟩
    · show RowI _ _ _
      have h := made_rowI w len
      unfold part
      rw [HZ.out]
      simpa using h
    · show _ = _; simp
  case round =>
    obtain ⟨k, hk, rfl, HR, HS, HB⟩ := hrel
    by_cases hlt : k < len
    · have hkz : k < zs.length := by rw [HZ.out]; exact hlt
      obtain ⟨c, hcc⟩ : ∃ c, c = zs[k]?.getD 0 := ⟨_, rfl⟩
      have hx := HC.out k hkz
      have hsrc : wr.cell? (x.add k) = some (.int .i64 c) := by
        rw [HB.out.cell (block_lt_of_cell hx), hx, hcc]; simp
      obtain ⟨y, hy⟩ : ∃ y, wr.cell? ⟨w.heap.size, k, none⟩ = some y := ⟨_, HR.out.cell (by rw [part_length zs k (by omega)]; exact hkz)⟩
      have hfr := HR.out.free k
      have hset := HR.out.set k c
      rw [hcc, part_set zs k hkz, ← hcc] at hset
      have HSET : Hid (RowI (wr.setCell ⟨w.heap.size, k, none⟩ (.int .i64 c)) w.heap.size (part zs (k + 1))) := hset
      clear hset hx hcc hkz hmk hnil
      go_wp2_with fail
      go_roundw
      case rel => exact ⟨k + 1, by omega, by go_num, HSET, (by show _ = _; have := HS.out; simpa [World.setCell] using this), HB.out.setCell (Nat.le_refl _) _⟩
      case measure => simp [intOf]; omega
    · clear hmk hnil
      have hfin := HR.out
      rw [part_all zs k (by rw [HZ.out]; omega)] at hfin
      go_wp2
      go_ret
      exact ⟨rfl, hfin, HS.out, HB.out⟩

set_option maxHeartbeats 400000 in
theorem clone_none (w : World) : Calls Try.prog 8 #[.slice none 0 0] w fun e w' => e = .returned (.slice none 0 0) ∧ w' = w := by
  have hnil := fun w => Lib.run_eql_slice_nil (P := Try.prog) w 26 3 none 0 0 0 0 Try.underlying26
  go_enter Try.func8, Try.ntmps8
  go_wp2_with fail
  go_ret
  exact ⟨rfl, rfl⟩

/-- the ints ys lie where a slice of the call's own leads: nowhere, or at the head of a block -/
def IntsAt (w : World) (a : Option Addr) (ys : List Int) : Prop :=
  (a = none ∧ ys = []) ∨ ∃ g, a = some ⟨g, 0, none⟩ ∧ ∀ j, j < ys.length → w.cell? ⟨g, j, none⟩ = some (.int .i64 (ys[j]?.getD 0))

theorem RowI.at {w : World} {g : Nat} {ys : List Int} (h : RowI w g ys) : IntsAt w (some ⟨g, 0, none⟩) ys := .inr ⟨g, rfl, fun _ hj => h.cell hj⟩

/-- containsInt -/
def has (ys : List Int) (z : Int) : Bool := ys.contains z

set_option maxHeartbeats 400000 in
theorem contains_any (a : Option Addr) (n cap : Nat) (ys : List Int) (z : Int) (b : Bool) (w : World) (hn : ys.length = n) (hm : n ≤ 1048576) (ha : IntsAt w a ys) (hb : has ys z = b) :
    Calls Try.prog 9 #[.slice a n cap, .int .i64 z] w fun e w' => e = .returned (.bool b) ∧ w' = w := by
  have HN : Hid (ys.length = n) := hn
  have HB : Hid (has ys z = b) := hb
  rcases ha with ⟨rfl, rfl⟩ | ⟨g, rfl, hc⟩
  · obtain rfl : n = 0 := by simpa using hn.symm
    obtain rfl : b = false := by rw [← hb]; rfl
    clear hn hb HN HB
    go_enter Try.func9, Try.ntmps9
    go_wp2_with fail
    go_rounds 1
    go_ret
    exact ⟨rfl, rfl⟩
  · have HC : Hid (∀ j, j < ys.length → w.cell? ⟨g, j, none⟩ = some (.int .i64 (ys[j]?.getD 0))) := hc
    clear hn hb hc
    go_enter Try.func9, Try.ntmps9
    go_wp2_with fail
    go_loop [5] (fun v => ∃ k : Nat, k ≤ n ∧ v = .int .i64 k ∧ Hid (has (ys.take k) z = false)) (fun v => n - (intOf v).toNat)
    case atStart => exact ⟨0, Nat.zero_le _, rfl, rfl⟩
    case round =>
      obtain ⟨k, hk, rfl, HK⟩ := hrel
      by_cases hlt : k < n
      · have hky : k < ys.length := by rw [HN.out]; exact hlt
        have hcell := HC.out k hky
        have hsn : ys.take (k + 1) = ys.take k ++ [ys[k]?.getD 0] := by
          rw [List.take_succ_eq_append_getElem hky]; simp [hky]
        have hmem : ys[k]?.getD 0 ∈ ys := by rw [List.getElem?_eq_getElem hky]; exact List.getElem_mem _
        obtain ⟨c, hcc⟩ : ∃ c, c = ys[k]?.getD 0 := ⟨_, rfl⟩
        rw [← hcc] at hcell hsn hmem
        by_cases he : c = z
        · obtain rfl : b = true := by rw [← HB.out]; unfold has; simp; rw [← he]; exact hmem
          have hd : (c == z) = true := by simp [he]
          clear he hky hcc hsn hmem
          go_wp2_with fail
          go_ret
          exact ⟨rfl, rfl⟩
        · have hd : (c == z) = false := by simp [he]
          have HNX : Hid (has (ys.take (k + 1)) z = false) := by
            show _ = _
            have h := HK.out
            rw [hsn]
            unfold has at h ⊢
            simp at h ⊢
            exact ⟨h, fun e => he e.symm⟩
          clear he hky hcc hsn hmem
          go_wp2_with fail
          go_round
          case rel => exact ⟨k + 1, by omega, by go_num, HNX⟩
          case measure => simp [intOf]; omega
      · obtain rfl : b = false := by
          rw [← HB.out]
          have h := HK.out
          rw [List.take_of_length_le (by rw [HN.out]; omega)] at h
          exact h
        go_wp2
        go_ret
        exact ⟨rfl, rfl⟩
end Go.Proofs.Qxb6600855a
