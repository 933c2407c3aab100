import Derived.Test.Qxb6600855aZZ
namespace Go.Proofs.Qxb6600855a
open Go.RowKit

theorem zzbytes7 (a : Option Addr) (len cap : Nat) (w : World) (h : len ≤ 1048576) :
    Calls Try.prog 7 #[.slice a len cap] w fun e w' => e = .returned (.bool true) ∧ w' = w := by
  go_enter Try.func7, Try.ntmps7
  go_wp2
  go_ret
  exact ⟨rfl, rfl⟩

set_option maxHeartbeats 400000 in
theorem law5_long (a : Option Addr) (len cap : Nat) (w : World) (h : 4096 < len) (hm : len ≤ maxLen) :
    Calls Try.prog 5 #[.slice a len cap] w fun e w' => e = .returned (.bool true) ∧ w' = w := by
  unfold maxLen at hm
  by_cases h2 : 1048576 < len
  · go_enter Try.func5, Try.ntmps5
    go_wp2
    go_ret
    exact ⟨rfl, rfl⟩
  · go_enter Try.func5, Try.ntmps5
    go_wp2
    go_ret
    exact ⟨rfl, rfl⟩

/-- prev := cloneInts(styles) -/
theorem clone_sty (B n cap : Nat) (a : Option Addr) (ys : List Int) (w : World) (hm : n ≤ 5000) (hs : Sty w B a n cap ys) :
    Calls Try.prog 8 #[.slice a n cap] w fun e w' => ∃ a1 c1, e = .returned (.slice a1 n c1) ∧ IntsAt w' a1 ys ∧ w.grownBy w' none ∧ ∀ g1, a1 = some ⟨g1, 0, none⟩ → w.heap.size ≤ g1 ∧ g1 < w'.heap.size := by
  have hl := hs.length
  rcases hs.2 with ⟨e, hn⟩ | ⟨g, c, cur, e, _⟩
  · simp only [Value.slice.injEq] at e
    obtain ⟨rfl, rfl, rfl⟩ := e
    refine (clone_none w).mono ?_
    rintro e w' ⟨he, rfl⟩
    exact ⟨none, 0, he, hs.ints, World.grownBy.refl _ _, fun _ h => by cases h⟩
  · simp only [Value.slice.injEq] at e
    obtain ⟨rfl, _, rfl⟩ := e
    have hi := hs.ints
    refine (clone_some ⟨g, 0, none⟩ n cap ys w hl (by omega) ?_).mono ?_
    · intro i hi'
      rcases hi with ⟨h, _⟩ | ⟨g2, h, hc⟩
      · cases h
      · simp only [Option.some.injEq, Addr.mk.injEq] at h
        have hadd : (⟨g, 0, none⟩ : Addr).add i = ⟨g, i, none⟩ := by unfold Addr.add; split <;> simp_all
        rw [hadd, h.1, hc i hi']
        simp
    · rintro e w' ⟨he, hr, hsz, hb⟩
      refine ⟨some ⟨w.heap.size, 0, none⟩, n, he, hr.at, ⟨hb.os, hb.tape, hb.output, hb.size, fun k hk _ => hb.block k hk⟩, fun g1 h => ?_⟩
      simp only [Option.some.injEq, Addr.mk.injEq, and_true] at h
      omega

theorem IntsAt.kept {w w' : World} {a : Option Addr} {ys : List Int} (h : IntsAt w a ys) (hc : ∀ g j v, a = some ⟨g, 0, none⟩ → w.cell? ⟨g, j, none⟩ = some v → w'.cell? ⟨g, j, none⟩ = some v) : IntsAt w' a ys := by
  rcases h with h | ⟨g, rfl, h⟩
  · exact .inl h
  · exact .inr ⟨g, rfl, fun j hj => hc g j _ rfl (h j hj)⟩

theorem IntsAt.prefix_of {w : World} {a : Option Addr} {ys zs : List Int} (h : IntsAt w a (ys ++ zs)) : IntsAt w a ys := by
  rcases h with ⟨h1, h2⟩ | ⟨g, rfl, h⟩
  · exact .inl ⟨h1, (List.append_eq_nil_iff.1 h2).1⟩
  · refine .inr ⟨g, rfl, fun j hj => ?_⟩
    have := h j (by simp; omega)
    rw [this, List.getElem?_append_left hj]

theorem Sty.cap {w : World} {B g n cap : Nat} {ys : List Int} (h : Sty w B (some ⟨g, 0, none⟩) n cap ys) : n ≤ cap ∧ cap ≤ maxLen := by
  rcases h.2 with ⟨e, _⟩ | ⟨g2, c, cur, e, _, _, h1, h2, _⟩
  · simp only [Value.slice.injEq] at e
    cases e.1
  · simp only [Value.slice.injEq] at e
    obtain ⟨_, _, rfl⟩ := e
    exact ⟨h1, h2⟩

theorem has_true {ys : List Int} {z : Int} (h : has ys z = true) : z ∈ ys := by unfold has at h; simpa using h
theorem has_false {ys : List Int} {z : Int} (h : has ys z = false) : ∀ j, j < ys.length → ys[j]?.getD 0 ≠ z := by
  intro j hj e
  unfold has at h
  simp at h
  apply h
  rw [← e, List.getElem?_eq_getElem hj]
  exact List.getElem_mem _

/-- the copy of the styles lies behind the styles -/
theorem prev_apart {w : World} {B n cap g1 : Nat} {a : Option Addr} {ys : List Int} (h : Sty w B a n cap ys) (hg : w.heap.size ≤ g1) : some g1 ≠ (Value.slice a n cap).ownBlock := by
  intro e
  have := (World.ownsRow.lt h g1 e.symm).2
  omega

theorem reqs_apart {w : World} {R n cap : Nat} {a : Option Addr} {ys : List Int} (h : Sty w (R + 1) a n cap ys) : some R ≠ (Value.slice a n cap).ownBlock := by
  intro e
  have := (World.ownsRow.lt h R e.symm).1
  omega

theorem nodup_snoc {ys : List Int} {z : Int} (h : ys.Nodup) (hz : ∀ j, j < ys.length → ys[j]?.getD 0 ≠ z) : (ys ++ [z]).Nodup := by
  rw [List.nodup_append]
  refine ⟨h, by simp, ?_⟩
  intro u hu v hv
  simp at hv
  subst hv
  obtain ⟨j, hj, e⟩ := List.getElem_of_mem hu
  have := hz j hj
  rw [List.getElem?_eq_getElem hj] at this
  intro e2
  apply this
  rw [← e2, ← e]
  rfl

theorem nodup_ne {ys : List Int} (h : ys.Nodup) {p q : Nat} (hpq : p < q) (hq : q < ys.length) : (ys[p]?.getD 0 == ys[q]?.getD 0) = false := by
  rw [List.getElem?_eq_getElem hq, List.getElem?_eq_getElem (by omega : p < ys.length)]
  simp only [Option.getD_some, beq_eq_false_iff_ne, ne_eq]
  exact List.pairwise_iff_getElem.1 h p q (by omega) hq hpq

theorem ints_cell {w : World} {g : Nat} {ys : List Int} (h : IntsAt w (some ⟨g, 0, none⟩) ys) {j : Nat} (hj : j < ys.length) : w.cell? ⟨g, j, none⟩ = some (.int .i64 (ys[j]?.getD 0)) := by
  rcases h with ⟨e, _⟩ | ⟨g2, e, h⟩
  · cases e
  · simp only [Option.some.injEq, Addr.mk.injEq, and_true] at e
    rw [e]
    exact h j hj

set_option maxHeartbeats 1000000 in
set_option maxRecDepth 8000 in
theorem law5_main (x : Addr) (L cap : Nat) (zs : List Int) (w : World) (hL : zs.length = L) (h2 : L ≤ 4096)
    (hc : ∀ i, i < zs.length → w.cell? (x.add i) = some (.int .i64 (zs.getD i 0))) :
    Calls Try.prog 5 #[.slice (some x) L cap] w fun e w' => e = .returned (.bool true) ∧ Below w.heap.size w w' := by
  have HL : Hid (zs.length = L) := hL
  have HC : Hid (∀ i, i < zs.length → w.cell? (x.add i) = some (.int .i64 (zs.getD i 0))) := hc
  clear hL hc
  go_enter Try.func5, Try.ntmps5
  go_wp2_with fail
  refine (zzbytes7 _ _ _ _ (by omega)).mono ?_
  rintro e w0 ⟨rfl, rfl⟩
  go_wp2_with fail
  refine (clone_some x L cap zs w0 HL.out (by omega) HC.out).mono ?_
  rintro e w1 ⟨rfl, hr1, hs1, hb1⟩
  have HR1 : Hid (RowI w1 w0.heap.size zs) := hr1
  have HB1 : Hid (Below w0.heap.size w0 w1) := hb1
  clear hr1 hs1 hb1
  go_wp2_with fail
  go_loopw [3, 4] (fun v3 v4 wr => ∃ (k n cp : Nat) (a : Option Addr) (ys : List Int), k ≤ L ∧ n ≤ k ∧ v3 = .slice a n cp ∧ v4 = .int .i64 k ∧ Hid (Sty wr (w0.heap.size + 1) a n cp ys) ∧ Hid ys.Nodup ∧ Hid (RowI wr w0.heap.size zs) ∧ Hid (Below w0.heap.size w0 wr)) (fun _ v _ => L - (intOf v).toNat)
  case atStart => exact ⟨0, 0, 0, none, [], by omega, by omega, rfl, rfl, World.ownsRow_nil _ _ _ _, List.nodup_nil, HR1, HB1⟩
  case round =>
    obtain ⟨k, n, cp, a, ys, hk, hn, rfl, rfl, HS, HD, HR, HB⟩ := hrel
    by_cases hlt : k < L
    · have hkz : k < zs.length := by rw [HL.out]; exact hlt
      obtain ⟨z, hzz⟩ : ∃ z, z = zs[k]?.getD 0 := ⟨_, rfl⟩
      have HZK : Hid (z = zs[k]?.getD 0) := hzz
      clear hzz hkz
      go_wp2_with fail
      refine (clone_sty (w0.heap.size + 1) n cp a ys wr (by omega) HS.out).mono ?_
      rintro e w2 ⟨a1, c1, rfl, hi1, hg1, hb1⟩
      have HI1 : Hid (IntsAt w2 a1 ys) := hi1
      have HG1 : Hid (wr.grownBy w2 none) := hg1
      have HA1 : Hid (∀ g1, a1 = some ⟨g1, 0, none⟩ → wr.heap.size ≤ g1 ∧ g1 < w2.heap.size) := hb1
      have HS2 : Hid (Sty w2 (w0.heap.size + 1) a n cp ys) := HS.out.kept hg1 (by cases h : (Value.slice a n cp).ownBlock <;> simp)
      have HR2 : Hid (RowI w2 w0.heap.size zs) := HR.out.of_block (hg1.block _ HR.out.lt (by simp))
      clear hi1 hg1 hb1
      have hcz : w2.cell? ⟨w0.heap.size, k, none⟩ = some (.int .i64 z) := by rw [HZK.out]; exact HR2.out.cell (by rw [HL.out]; exact hlt)
      cases hh : has ys z
      · have HH : Hid (has ys z = false) := hh
        clear hh
        go_wp2_with fail
        refine (contains_any a1 n c1 ys z false w2 HS.out.length (by omega) HI1.out HH.out).mono ?_
        rintro e w3 ⟨rfl, rfl⟩
        go_wp2_with fail
        refine (zz_new (w0.heap.size + 1) n cp a ys z w3 (by omega) HS2.out (by have := HR2.out.lt; omega) (has_false HH.out)).mono ?_
        rintro e w4 ⟨g', cap', rfl, hs4, hg4⟩
        have hcap := hs4.cap
        unfold maxLen at hcap
        obtain ⟨hcap1, hcap2⟩ := hcap
        have hcap3 : ¬ cap' = 0 := by omega
        have HS4 : Hid (Sty w4 (w0.heap.size + 1) (some ⟨g', 0, none⟩) (n + 1) cap' (ys ++ [z])) := hs4
        have HG4 : Hid (w3.grownBy w4 (Value.slice a n cp).ownBlock) := hg4
        have HI4 : Hid (IntsAt w4 a1 ys) := HI1.out.kept (fun g1 j v h hv => hg4.cell hv (prev_apart HS.out (HA1.out g1 h).1))
        have HR4 : Hid (RowI w4 w0.heap.size zs) := HR2.out.of_block (hg4.block _ HR2.out.lt (reqs_apart HS.out))
        have HD4 : Hid (ys ++ [z]).Nodup := nodup_snoc HD.out (has_false HH.out)
        clear hs4 hg4 hcz
        go_wp2_with fail
        refine (equal_any (some ⟨g', 0, none⟩) a1 n cap' c1 ys w4 HS.out.length (by omega) HS4.out.ints.prefix_of HI4.out).mono ?_
        rintro e w5 ⟨rfl, nq, rfl⟩
        have hcz : w4.cell? ⟨w0.heap.size, k, none⟩ = some (.int .i64 z) := by rw [HZK.out]; exact HR4.out.cell (by rw [HL.out]; exact hlt)
        have hcs : w4.cell? ⟨g', n, none⟩ = some (.int .i64 z) := by
          have h := ints_cell HS4.out.ints (j := n) (by have := HS.out.length; simp; omega)
          rw [h, List.getElem?_append_right (by have := HS.out.length; omega), HS.out.length]
          simp
        have hi1 : (k : Int) < (L : Int) := by omega
        go_wp2_with fail

        go_quiet (fail)
        go_wp2

        go_roundw
        case rel =>
          refine ⟨k + 1, n + 1, cap', some ⟨g', 0, none⟩, ys ++ [z], by omega, by omega, rfl, by go_num, HS4, HD4, HR4, ?_⟩
          have hlt1 := HR.out.lt
          have hsz1 := HG1.out.size
          have b2 := HB.out.grown HG1.out (by omega) (by intro k h; cases h)
          have b4 := b2.grown HG4.out (by omega) (by intro k h; have := (World.ownsRow.lt HS.out k h).1; omega)
          exact below_drewN b4 _
        case measure => simp [intOf]; omega
      · have HH : Hid (has ys z = true) := hh
        clear hh
        obtain ⟨g, rfl⟩ : ∃ g, a = some ⟨g, 0, none⟩ := by
          rcases HS.out.ints with ⟨_, e⟩ | ⟨g, e, _⟩
          · have := has_true HH.out; rw [e] at this; simp at this
          · exact ⟨g, e⟩
        have hcap := HS.out.cap
        unfold maxLen at hcap
        obtain ⟨hcap1, hcap2⟩ := hcap
        go_wp2_with fail
        refine (contains_any a1 n c1 ys z true w2 HS.out.length (by omega) HI1.out HH.out).mono ?_
        rintro e w3 ⟨rfl, rfl⟩
        go_wp2_with fail
        refine (zz_old (w0.heap.size + 1) g n cp ys z w3 (by omega) HS2.out (has_true HH.out)).mono ?_
        rintro e w4 ⟨i, hi, hiz, rfl, hg4⟩
        have HIZ : Hid (ys[i]?.getD 0 = z) := hiz
        have hcap3 : ¬ cp = 0 := by omega
        have HS4 : Hid (Sty w4 (w0.heap.size + 1) (some ⟨g, 0, none⟩) n cp ys) := HS2.out.kept hg4 (by simp [Value.ownBlock])
        have HG4 : Hid (w3.grownBy w4 none) := hg4
        have HI4 : Hid (IntsAt w4 a1 ys) := HI1.out.kept (fun g1 j v h hv => hg4.cell hv (by simp))
        have HR4 : Hid (RowI w4 w0.heap.size zs) := HR2.out.of_block (hg4.block _ HR2.out.lt (by simp))
        clear hg4 hcz hiz
        go_wp2_with fail
        refine (equal_any (some ⟨g, 0, none⟩) a1 n cp c1 ys w4 HS.out.length (by omega) HS4.out.ints HI4.out).mono ?_
        rintro e w5 ⟨rfl, nq, rfl⟩
        have hcz : w4.cell? ⟨w0.heap.size, k, none⟩ = some (.int .i64 z) := by rw [HZK.out]; exact HR4.out.cell (by rw [HL.out]; exact hlt)
        have hcs : w4.cell? ⟨g, i, none⟩ = some (.int .i64 z) := by
          have h := ints_cell HS4.out.ints (j := i) (by have := HS.out.length; omega)
          rw [h, HIZ.out]
        have hi1 : (k : Int) < (L : Int) := by omega
        have hi2 : (i : Int) < (n : Int) := by omega
        go_wp2_with fail
        go_quiet (fail)
        go_wp2
        go_roundw
        case rel =>
          refine ⟨k + 1, n, cp, some ⟨g, 0, none⟩, ys, by omega, by omega, rfl, by go_num, HS4, HD, HR4, ?_⟩
          have hlt1 := HR.out.lt
          have hsz1 := HG1.out.size
          have b2 := HB.out.grown HG1.out (by omega) (by intro k h; cases h)
          have b4 := b2.grown HG4.out (by omega) (by intro k h; cases h)
          exact below_drewN b4 _
        case measure => simp [intOf]; omega
    · go_wp2_with fail
      go_loopw [9] (fun v wq => ∃ p nq : Nat, p ≤ n ∧ v = .int .i64 p ∧ wq = wr.drewN nq) (fun v _ => n - (intOf v).toNat)
      case atStart => exact ⟨0, 0, Nat.zero_le _, rfl, rfl⟩
      case round =>
        obtain ⟨p, nq, hp, rfl, rfl⟩ := hrel
        by_cases hpn : p < n
        · obtain ⟨g, rfl⟩ : ∃ g, a = some ⟨g, 0, none⟩ := by
            rcases HS.out.ints with ⟨_, e⟩ | ⟨g, e, _⟩
            · have := HS.out.length; rw [e] at this; simp at this; omega
            · exact ⟨g, e⟩
          have hcp := ints_cell HS.out.ints (j := p) (by have := HS.out.length; omega)
          go_wp2_with fail
          go_loopw [10] (fun v wq => ∃ q nr : Nat, p < q ∧ q ≤ n ∧ v = .int .i64 q ∧ wq = wr.drewN nr) (fun v _ => n - (intOf v).toNat)
          case atStart => exact ⟨p + 1, nq, by omega, by omega, by go_num, rfl⟩
          case round =>
            obtain ⟨q, nr, hpq, hq, rfl, rfl⟩ := hrel
            by_cases hqn : q < n
            · have hcq := ints_cell HS.out.ints (j := q) (by have := HS.out.length; omega)
              have hne := nodup_ne HD.out hpq (by have := HS.out.length; omega)
              have hi1 : (p : Int) < (n : Int) := by omega
              have hi2 : (q : Int) < (n : Int) := by omega
              go_wp2_with fail
              go_quiet (fail)
              go_wp2
              go_roundw
              case rel => exact ⟨q + 1, _, by omega, by omega, by go_num, rfl⟩
              case measure => simp [intOf]; omega
            · go_wp2_with fail
              go_roundw
              case rel => exact ⟨p + 1, _, by omega, by go_num, rfl⟩
              case measure => simp [intOf]; omega
        · go_wp2_with fail
          go_ret
          exact ⟨rfl, below_drewN HB.out _⟩

set_option maxHeartbeats 400000 in
theorem law5_nil (w : World) :
    Calls Try.prog 5 #[.slice none 0 0] w fun e w' => e = .returned (.bool true) ∧ w' = w := by
  go_enter Try.func5, Try.ntmps5
  go_wp2_with fail
  refine (zzbytes7 _ _ _ _ (by omega)).mono ?_
  rintro e w0 ⟨rfl, rfl⟩
  go_wp2_with fail
  refine (clone_none w0).mono ?_
  rintro e w1 ⟨rfl, rfl⟩
  go_wp2_with fail
  go_rounds 1
  go_rounds 1
  go_ret
  exact ⟨rfl, rfl⟩

theorem take_cells {w : World} {x : Addr} {len : Nat} {zs : List Int} (hl : len ≤ zs.length) (hc : ∀ i, i < zs.length → w.cell? (x.add i) = some (.int .i64 (zs.getD i 0))) :
    ∀ i, i < (zs.take len).length → w.cell? (x.add i) = some (.int .i64 ((zs.take len).getD i 0)) := by
  intro i hi
  have hi2 : i < len := by simp at hi; omega
  rw [hc i (by omega)]
  simp [hi2]

theorem law5_any (a : Option Addr) (len cap : Nat) (zs : List Int) (w : World)
    (h : (a = none ∧ len = 0 ∧ cap = 0 ∧ zs = []) ∨ ∃ x, a = some x ∧ len ≤ cap ∧ cap ≤ maxLen ∧ zs.length = cap ∧ (∀ i, i < zs.length → w.cell? (x.add i) = some (.int .i64 (zs.getD i 0))) ∧ ∀ n ∈ zs, (Lit.int .i64 n).wf = true) :
    Calls Try.prog 5 #[.slice a len cap] w fun e w' => e = .returned (.bool true) ∧ Below w.heap.size w w' := by
  rcases h with ⟨rfl, rfl, rfl, rfl⟩ | ⟨x, rfl, hlc, hcm, hz, hc, _⟩
  · refine (law5_nil w).mono ?_
    rintro e w' ⟨he, rfl⟩
    exact ⟨he, Below.refl _ _⟩
  · by_cases c2 : 4096 < len
    · refine (law5_long (some x) len cap w c2 (by omega)).mono ?_
      rintro e w' ⟨he, rfl⟩
      exact ⟨he, Below.refl _ _⟩
    · exact law5_main x len cap (zs.take len) w (by simp; omega) (by omega) (take_cells (by omega) hc)
end Go.Proofs.Qxb6600855a
