import Derived.Test.Qxb6600502aPlain
namespace Go.Proofs.Qxb6600502a
open Go.RowKit

/-- block 'g' is the array of twenty bytes -/
def RowA (w : World) (g : Nat) (zs : List Int) : Prop := w.heap[g]? = some (.cells (zs.map (Value.int .u8)).toArray 36 (0, 0))

theorem RowA.lt {w : World} {g : Nat} {zs : List Int} (h : RowA w g zs) : g < w.heap.size := (Array.getElem?_eq_some_iff.1 h).1

theorem RowA.cell {w : World} {g : Nat} {zs : List Int} (h : RowA w g zs) {j : Nat} (hj : j < zs.length) : w.cell? ⟨g, j, none⟩ = some (.int .u8 (zs[j]?.getD 0)) := by
  rw [cell_of_row w g j _ 36 (0, 0) h]
  simp [hj]

theorem RowA.free {w : World} {g : Nat} {zs : List Int} (h : RowA w g zs) (j : Nat) : w.frozen? ⟨g, j, none⟩ = false := frozen_of_row w g j _ 36 h

theorem RowA.set {w : World} {g : Nat} {zs : List Int} (h : RowA w g zs) (i : Nat) (n : Int) : RowA (w.setCell ⟨g, i, none⟩ (.int .u8 n)) g (zs.set i n) := by
  have h2 := heap_setCell_same w g i _ 36 (.int .u8 n) h
  unfold RowA
  rw [h2]
  simp [List.map_set]

/-- twenty bytes, the last of them written -/
def pad (ds : List Int) : List Int := List.replicate (20 - ds.length) 0 ++ ds

theorem pad_set (ds : List Int) (c : Int) (h : ds.length < 20) : (pad ds).set (19 - ds.length) c = pad (c :: ds) := by
  unfold pad
  rw [List.set_append_left _ _ (by simp; omega)]
  have e : List.replicate (20 - ds.length) (0 : Int) = List.replicate (19 - ds.length) 0 ++ [0] := by
    rw [show 20 - ds.length = (19 - ds.length) + 1 by omega, List.replicate_succ']
  rw [e, List.set_append_right _ _ (by simp)]
  simp [show 20 - (ds.length + 1) = 19 - ds.length by omega]

theorem pad_length (ds : List Int) (h : ds.length ≤ 20) : (pad ds).length = 20 := by simp [pad]; omega

theorem txt_step (f u : Nat) (h : 10 ≤ u) (hu : u < 10 ^ (f + 1)) (ds : List Int) : ∃ f', f = f' + 1 ∧ Num.txt f u ++ ds = Num.txt f' (u / 10) ++ ((48 + (u : Int) % 10) :: ds) ∧ u / 10 < 10 ^ (f' + 1) := by
  match f with
  | 0 => exfalso; simp at hu; omega
  | f + 1 =>
    refine ⟨f, rfl, ?_, by rw [Nat.pow_succ] at hu; omega⟩
    rw [Num.txt, if_neg (by omega), List.append_assoc]
    rfl

theorem txt_last (f u : Nat) (h : u < 10) (ds : List Int) : Num.txt f u ++ ds = (48 + (u : Int) % 10) :: ds := by
  cases f with
  | zero => rfl
  | succ f => rw [Num.txt, if_pos h]; rfl

theorem zeros_new (w : World) : RowA (w.alloc (.cells #[.int .u8 0, .int .u8 0, .int .u8 0, .int .u8 0, .int .u8 0, .int .u8 0, .int .u8 0, .int .u8 0, .int .u8 0, .int .u8 0, .int .u8 0, .int .u8 0, .int .u8 0, .int .u8 0, .int .u8 0, .int .u8 0, .int .u8 0, .int .u8 0, .int .u8 0, .int .u8 0] 36)) w.heap.size (pad []) := by
  unfold RowA
  rw [heap_alloc_new]
  rfl

theorem len36 : Try.prog.arrayLen 36 = 20 := by kernel_rfl
theorem elem36 : Try.prog.elem 36 = 5 := by kernel_rfl
theorem und36 : Try.prog.underlying 36 = some (.array (Try.prog.arrayLen 36) (Try.prog.elem 36)) := by kernel_rfl

theorem slice_arr (B k : Nat) (I : Int) (hI : I = (k : Int)) (hk : k < 20) (w : World) :
    (Instr.sliceAt 36 (.pointer (some ⟨B, 0, none⟩)) (some (.int .i64 I)) none none).run Try.prog w = .ok (.slice (some ⟨B, k, none⟩) (20 - k) (20 - k)) w := by
  subst hI
  have h := run_sliceAt_array_l (P := Try.prog) w 36 ⟨B, 0, none⟩ und36 .i64 (k : Int) (by omega) (by rw [len36]; omega)
  rw [h, len36, elem36]
  obtain ⟨i, hi, hz⟩ := Option.map_eq_some_iff.1 size5
  have e : (sizeOf 5).run Try.prog w = .ok 1 w := by simp [sizeOf, typeInfo, hi, hz]
  rw [e]
  simp only [Result.andThen, slicedAt, Int.toNat_natCast, Nat.mul_one]
  rw [if_neg (by omega)]
  have hadd : (⟨B, 0, none⟩ : Addr).add k = ⟨B, k, none⟩ := by unfold Addr.add; split <;> simp_all
  rw [hadd]

theorem pad_at (ds : List Int) (j : Nat) : (pad ds)[20 - ds.length + j]? = ds[j]? := by
  unfold pad
  rw [List.getElem?_append_right (by simp)]
  simp

/-- what copy reads out of the array -/
theorem src_pad {W : World} {B k : Nat} {T : List Int} (h : RowA W B (pad T)) (hT : T.length ≤ 20) (hk : k = 20 - T.length) (o : Obj) :
    ∀ j, j < T.length → (W.alloc o).cell? ((⟨B, k, none⟩ : Addr).add j) = some (.int .u8 (T.getD j 0)) := by
  intro j hj
  have hadd : (⟨B, k, none⟩ : Addr).add j = ⟨B, k + j, none⟩ := by unfold Addr.add; split <;> simp_all
  have hc := h.cell (j := k + j) (by rw [pad_length T hT]; omega)
  rw [hk, pad_at] at hc
  rw [hadd, hk, old_cell hc o]
  simp

theorem made_row (W : World) (n g : Nat) (hg : g = W.heap.size) : RowB (W.alloc (.cells (madeCells #[.int .u8 0] n) 5)) g (List.replicate n 0) := by
  subst hg
  unfold RowB; rw [heap_alloc_new]; simp [madeCells_zero]

theorem copied {W : World} {g n : Nat} {T : List Int} (h : RowB W g (List.take 0 (List.replicate n (0 : Int)) ++ (T ++ List.drop (0 + T.length) (List.replicate n 0)))) (hn : T.length = n) : RowB W g T := by
  have e : List.take 0 (List.replicate n (0 : Int)) ++ (T ++ List.drop (0 + T.length) (List.replicate n 0)) = T := by
    simp; omega
  rw [e] at h
  exact h

set_option maxHeartbeats 400000 in
theorem dec_pos (N : Nat) (T : List Int) (n : Nat) (w : World) (hN : N ≤ 999999999999999999) (hT : Num.txt 17 N = T) (hn : T.length = n) :
    Calls Try.prog 19 #[.int .i64 N] w fun e w' => e = .returned (.slice (some ⟨w.heap.size + 1, 0, none⟩) n n) ∧ RowB w' (w.heap.size + 1) T ∧ Below w.heap.size w w' := by
  have HT : Hid (Num.txt 17 N = T) := hT
  have Hn : Hid (T.length = n) := hn
  clear hT hn
  go_enter Try.func19, Try.ntmps19
  go_wp2_with fail
  go_loopw [4, 6] (fun v4 v6 wr => ∃ (i u : Nat) (ds : List Int), 3 ≤ i ∧ i ≤ 20 ∧ u ≤ 999999999999999999 ∧ v4 = .int .i64 i ∧ v6 = .int .i64 u ∧ Hid (ds.length = 20 - i) ∧ Hid (u < 10 ^ (i - 3 + 1)) ∧ Hid (Num.txt (i - 3) u ++ ds = T) ∧ Hid (RowA wr w.heap.size (pad ds)) ∧ Hid (Below w.heap.size w wr) ∧ Hid (wr.heap.size = w.heap.size + 1))
    (fun v _ _ => (intOf v).toNat)
  case atStart => exact ⟨20, N, [], by omega, by omega, hN, rfl, rfl, rfl, (by show N < 10 ^ 18; omega), (by show Num.txt 17 N ++ [] = T; rw [List.append_nil]; exact HT), zeros_new w, (Below.refl _ _).alloc (Nat.le_refl _) _, (by show _ = _; simp)⟩
  case round =>
    obtain ⟨i, u, ds, hi1, hi2, hu, rfl, rfl, HDL, HU, HTX, HRA, HBL, HSZ⟩ := hrel
    have hi3 : (i : Int) - 1 < 20 := by omega
    obtain ⟨v, hv⟩ : ∃ v, wr.cell? ⟨w.heap.size, i - 1, none⟩ = some v := ⟨_, HRA.out.cell (by rw [pad_length _ (by have := HDL.out; omega)]; omega)⟩
    have hfr := HRA.out.free (i - 1)
    have hset := HRA.out.set (i - 1) (48 + (u : Int) % 10)
    rw [show i - 1 = 19 - ds.length by have := HDL.out; omega, pad_set ds _ (by have := HDL.out; omega), show 19 - ds.length = i - 1 by have := HDL.out; omega] at hset
    have HSET : Hid (RowA (wr.setCell ⟨w.heap.size, i - 1, none⟩ (.int .u8 (48 + (u : Int) % 10))) w.heap.size (pad ((48 + (u : Int) % 10) :: ds))) := hset
    clear hset
    by_cases hlast : u < 10
    · have hq : ((u : Int) / 10 == 0) = true := by simp; omega
      have hmk := fun w => run_make_row' (P := Try.prog) 22 5 (.int .u8 0) 1 Try.underlying22 info5 rfl .i64 .i64 (21 - i) (by omega) (by omega) w
      rw [show ((21 - i : Nat) : Int) = 20 - ((i : Int) - 1) by omega] at hmk
      have hne : ¬ 20 = i - 1 := by omega
      have hle : (i : Int) - 1 ≤ 20 := by omega
      have hsl := slice_arr w.heap.size (i - 1) ((i : Int) - 1) (by omega) (by omega)
      have hTc : T = (48 + (u : Int) % 10) :: ds := by rw [← HTX.out, txt_last _ _ hlast]
      have hTl : T.length = 21 - i := by rw [hTc]; have := HDL.out; simp; omega
      rw [← hTc] at HSET
      have HTL : Hid (T.length = 21 - i) := hTl
      clear hTc hTl HTX HU HDL
      go_wp2_with (with_reducible refine wpl_copy Try.underlying22 size5 wr.heap.size 0 (21 - i) (21 - i) ⟨w.heap.size, i - 1, none⟩ (20 - (i - 1)) (20 - (i - 1)) ?c1 ?c2 (List.replicate (21 - i) 0) ?c3 T ?c4 ?c5 ?c6 ?_)
      case c1 => rfl
      case c2 => rfl
      case c3 => exact made_row _ _ _ (by simp [World.setCell])
      case c4 => rw [HTL.out]; show _ = min _ _; omega
      case c5 => exact src_pad HSET.out (by rw [HTL.out]; omega) (by rw [HTL.out]; omega) _
      case c6 => rw [HTL.out]; simp
      intro w2 hr2 hw2
      have hr3 := copied hr2 HTL.out
      clear hr2
      go_wp2
      go_ret
      have hsz := HSZ.out
      have hn : n = 21 - i := by rw [← Hn.out, HTL.out]
      rw [← hsz, hn]
      exact ⟨rfl, hr3, (((HBL.out.setCell (Nat.le_refl _) _).alloc (by simp [World.setCell]; omega) _).trans (hw2.below (by omega)))⟩
    · have hq : ((u : Int) / 10 == 0) = false := by simp; omega
      go_wp2_with fail
      go_roundw
      case rel =>
        obtain ⟨f', hf, htx, hu2⟩ := txt_step (i - 3) u (by omega) HU.out ds
        refine ⟨i - 1, u / 10, (48 + (u : Int) % 10) :: ds, by omega, by omega, by omega, by go_num, by go_num, ?_, ?_, ?_, HSET, ?_, ?_⟩
        · show _ = _; have := HDL.out; simp; omega
        · show _ < _; rw [show i - 1 - 3 + 1 = f' + 1 by omega]; exact hu2
        · show _ = _; rw [show i - 1 - 3 = f' by omega, ← htx]; exact HTX.out
        · exact HBL.out.setCell (Nat.le_refl _) _
        · show _ = _; have := HSZ.out; simpa [World.setCell] using this
      case measure => simp [intOf]; omega

set_option maxHeartbeats 400000 in
theorem dec_neg (v : Int) (N : Nat) (T : List Int) (n : Nat) (w : World) (hv0 : v < 0) (hv1 : -999999999999999999 ≤ v) (hvN : -v = (N : Int)) (hT : Num.txt 17 N = T) (hn : T.length + 1 = n) :
    Calls Try.prog 19 #[.int .i64 v] w fun e w' => e = .returned (.slice (some ⟨w.heap.size + 1, 0, none⟩) n n) ∧ RowB w' (w.heap.size + 1) (45 :: T) ∧ Below w.heap.size w w' := by
  have HT : Hid (Num.txt 17 N = T) := hT
  have Hn : Hid (T.length + 1 = n) := hn
  have HVN : Hid (-v = (N : Int)) := hvN
  clear hT hn hvN
  go_enter Try.func19, Try.ntmps19
  go_wp2_with fail
  go_loopw [4, 6] (fun v4 v6 wr => ∃ (i u : Nat) (ds : List Int), 3 ≤ i ∧ i ≤ 20 ∧ u ≤ 999999999999999999 ∧ v4 = .int .i64 i ∧ v6 = .int .i64 u ∧ Hid (ds.length = 20 - i) ∧ Hid (u < 10 ^ (i - 3 + 1)) ∧ Hid (Num.txt (i - 3) u ++ ds = T) ∧ Hid (RowA wr w.heap.size (pad ds)) ∧ Hid (Below w.heap.size w wr) ∧ Hid (wr.heap.size = w.heap.size + 1))
    (fun v _ _ => (intOf v).toNat)
  case atStart => exact ⟨20, N, [], by omega, by omega, (by have := HVN.out; omega), rfl, congrArg (Value.int .i64) HVN.out, rfl, (by show N < 10 ^ 18; have := HVN.out; omega), (by show Num.txt 17 N ++ [] = T; rw [List.append_nil]; exact HT), zeros_new w, (Below.refl _ _).alloc (Nat.le_refl _) _, (by show _ = _; simp)⟩
  case round =>
    obtain ⟨i, u, ds, hi1, hi2, hu, rfl, rfl, HDL, HU, HTX, HRA, HBL, HSZ⟩ := hrel
    have hi3 : (i : Int) - 1 < 20 := by omega
    obtain ⟨y, hy⟩ : ∃ y, wr.cell? ⟨w.heap.size, i - 1, none⟩ = some y := ⟨_, HRA.out.cell (by rw [pad_length _ (by have := HDL.out; omega)]; omega)⟩
    have hfr := HRA.out.free (i - 1)
    have hset := HRA.out.set (i - 1) (48 + (u : Int) % 10)
    rw [show i - 1 = 19 - ds.length by have := HDL.out; omega, pad_set ds _ (by have := HDL.out; omega), show 19 - ds.length = i - 1 by have := HDL.out; omega] at hset
    have HSET : Hid (RowA (wr.setCell ⟨w.heap.size, i - 1, none⟩ (.int .u8 (48 + (u : Int) % 10))) w.heap.size (pad ((48 + (u : Int) % 10) :: ds))) := hset
    clear hset
    by_cases hlast : u < 10
    · have hq : ((u : Int) / 10 == 0) = true := by simp; omega
      have hmk := fun w => run_make_row' (P := Try.prog) 22 5 (.int .u8 0) 1 Try.underlying22 info5 rfl .i64 .i64 (22 - i) (by omega) (by omega) w
      rw [show ((22 - i : Nat) : Int) = 20 - ((i : Int) - 1 - 1) by omega] at hmk
      have hsl := slice_arr w.heap.size (i - 1 - 1) ((i : Int) - 1 - 1) (by omega) (by omega)
      have hTc : T = (48 + (u : Int) % 10) :: ds := by rw [← HTX.out, txt_last _ _ hlast]
      have hTl : T.length = 21 - i := by rw [hTc]; have := HDL.out; simp; omega
      rw [← hTc] at HSET
      have HTL : Hid (T.length = 21 - i) := hTl
      obtain ⟨y2, hy2⟩ : ∃ y, (wr.setCell ⟨w.heap.size, i - 1, none⟩ (.int .u8 (48 + (u : Int) % 10))).cell? ⟨w.heap.size, i - 1 - 1, none⟩ = some y := ⟨_, HSET.out.cell (by rw [pad_length _ (by omega)]; omega)⟩
      have hfr2 := HSET.out.free (i - 1 - 1)
      have hset2 := HSET.out.set (i - 1 - 1) 45
      rw [show i - 1 - 1 = 19 - T.length by omega, pad_set T 45 (by omega), show 19 - T.length = i - 1 - 1 by omega] at hset2
      have HSET2 : Hid (RowA ((wr.setCell ⟨w.heap.size, i - 1, none⟩ (.int .u8 (48 + (u : Int) % 10))).setCell ⟨w.heap.size, i - 1 - 1, none⟩ (.int .u8 45)) w.heap.size (pad (45 :: T))) := hset2
      clear hTc hTl HTX HU HDL hset2
      go_wp2_with (with_reducible refine wpl_copy Try.underlying22 size5 wr.heap.size 0 (22 - i) (22 - i) ⟨w.heap.size, i - 1 - 1, none⟩ (20 - (i - 1 - 1)) (20 - (i - 1 - 1)) ?c1 ?c2 (List.replicate (22 - i) 0) ?c3 (45 :: T) ?c4 ?c5 ?c6 ?_)
      case c1 => rfl
      case c2 => rfl
      case c3 => exact made_row _ _ _ (by simp [World.setCell])
      case c4 => rw [List.length_cons, HTL.out]; show _ = min _ _; omega
      case c5 => exact src_pad HSET2.out (by rw [List.length_cons, HTL.out]; omega) (by rw [List.length_cons, HTL.out]; omega) _
      case c6 => rw [List.length_cons, HTL.out]; simp; omega
      intro w2 hr2 hw2
      have hr3 := copied hr2 (by rw [List.length_cons, HTL.out]; omega)
      clear hr2
      go_wp2
      go_ret
      have hsz := HSZ.out
      have hn : n = 22 - i := by rw [← Hn.out, HTL.out]; omega
      rw [← hsz, hn]
      exact ⟨rfl, hr3, ((((HBL.out.setCell (Nat.le_refl _) _).setCell (Nat.le_refl _) _).alloc (by simp [World.setCell]; omega) _).trans (hw2.below (by omega)))⟩
    · have hq : ((u : Int) / 10 == 0) = false := by simp; omega
      go_wp2_with fail
      go_roundw
      case rel =>
        obtain ⟨f', hf, htx, hu2⟩ := txt_step (i - 3) u (by omega) HU.out ds
        refine ⟨i - 1, u / 10, (48 + (u : Int) % 10) :: ds, by omega, by omega, by omega, by go_num, by go_num, ?_, ?_, ?_, HSET, ?_, ?_⟩
        · show _ = _; have := HDL.out; simp; omega
        · show _ < _; rw [show i - 1 - 3 + 1 = f' + 1 by omega]; exact hu2
        · show _ = _; rw [show i - 1 - 3 = f' by omega, ← htx]; exact HTX.out
        · exact HBL.out.setCell (Nat.le_refl _) _
        · show _ = _; have := HSZ.out; simpa [World.setCell] using this
      case measure => simp [intOf]; omega
end Go.Proofs.Qxb6600502a
