import Derived.Test.Qxb6600855aInts2
namespace Go.Proofs.Qxb6600855a
open Go.RowKit

/-- the styles: the slice value leads to a row of the call's own (or is nil) whose first n ints are ys -/
def Sty (w : World) (B : Nat) (a : Option Addr) (n cap : Nat) (ys : List Int) : Prop := w.ownsRow B 3 1 (.slice a n cap) n (ys.map (Value.int .i64))

theorem Sty.length {w : World} {B : Nat} {a : Option Addr} {n cap : Nat} {ys : List Int} (h : Sty w B a n cap ys) : ys.length = n := by
  have := h.1
  simpa using this

theorem Sty.ints {w : World} {B : Nat} {a : Option Addr} {n cap : Nat} {ys : List Int} (h : Sty w B a n cap ys) : IntsAt w a ys := by
  rcases h.2 with ⟨e, hn⟩ | ⟨g, c, cur, e, _⟩
  · left
    simp only [Value.slice.injEq] at e
    have := h.length
    exact ⟨e.1, List.eq_nil_of_length_eq_zero (by omega)⟩
  · simp only [Value.slice.injEq] at e
    obtain ⟨rfl, _, rfl⟩ := e
    right
    refine ⟨g, rfl, fun j hj => ?_⟩
    have hc := World.ownsRow.cells h (g := g) rfl j (.int .i64 (ys[j]?.getD 0)) (by simp [hj])
    have hadd : (⟨g, 0, none⟩ : Addr).add j = ⟨g, j, none⟩ := by unfold Addr.add; split <;> simp_all
    rw [hadd] at hc
    exact hc

theorem Sty.block {w : World} {B g : Nat} {n cap : Nat} {ys : List Int} (h : Sty w B (some ⟨g, 0, none⟩) n cap ys) : B ≤ g ∧ g < w.heap.size := World.ownsRow.lt h g rfl

/-- append of one int to the styles -/
theorem wpl_append1 {P : Program} {w : World} {ops : Array Oper} {rest : List Oper} {act : Act} {Q : Exit → Act → World → Prop} {dst : Option Tmp} {ty : TypeId} {pos : String} {after : Array Edge} {s x : Operand}
    (hu : P.underlying 26 = some (.slice 3)) (hinfo : (P.info? 3).map (fun i => (i.zero, i.size, i.bytes)) = some (some (.int .i64 0), 1, 8))
    (B n cap : Nat) (a : Option Addr) (ys : List Int) (d : Int) (b : Nat) (hs : act.eval s = .slice a n cap) (hx : act.eval x = .slice (some ⟨b, 0, none⟩) 1 1) (hcell : w.cell? ⟨b, 0, none⟩ = some (.int .i64 d))
    (hown : Sty w B a n cap ys) (hn : n ≤ 5000) (hB : B ≤ w.heap.size)
    (h : ∀ g' cap' w', Hid (Sty w' B (some ⟨g', 0, none⟩) (n + 1) cap' (ys ++ [d])) → Hid (w.grownBy w' (Value.slice a n cap).ownBlock) → wpList P ops Q rest (act.put dst (.slice (some ⟨g', 0, none⟩) (n + 1) cap')) w') :
    wpList P ops Q ({ dst := dst, op := .call { callee := .builtin .append, args := #[s, x], argTypes := #[26, 26] }, type := ty, pos := pos, after := after, guard := none } :: rest) act w := by
  obtain ⟨i, hi, hz0, hz1, hz2⟩ := info_parts hinfo
  refine wpList_append_own w rfl s x 26 rfl B 3 i (.int .i64 0) 1 8 hu hi hz0 hz1 hz2 rfl (by omega) (.slice a n cap) n (ys.map (Value.int .i64)) hs hown ⟨b, 0, none⟩ 1 1 [.int .i64 d] hx rfl ?_ ?_ (by unfold maxLen; omega) (by omega) hB ?_
  · intro j u hj
    match j, hj with
    | 0, hj =>
      simp at hj; subst hj
      rw [show (⟨b, 0, none⟩ : Addr).add 0 = ⟨b, 0, none⟩ from rfl]
      exact hcell
  · intro u hu; simp at hu; subst hu; rfl
  · intro v' w' hown' hg _
    rcases hown'.2 with ⟨rfl, h0⟩ | ⟨g', cap', cur, rfl, _⟩
    · omega
    · refine h g' cap' w' ?_ hg
      show Sty _ _ _ _ _ _
      unfold Sty
      rw [List.map_append]
      exact hown'

/-- new blocks; of the old ones block 'p' and the block 'row' alone may have been written -/
structure Two (p : Nat) (row : Option Nat) (w w' : World) : Prop where
  os : w'.os = w.os
  tape : w'.tape = w.tape
  output : w'.output = w.output
  size : w.heap.size ≤ w'.heap.size
  block : ∀ k, k < w.heap.size → k ≠ p → some k ≠ row → w'.heap[k]? = w.heap[k]?

theorem Sty.apart {w : World} {B p : Nat} {a : Option Addr} {n cap : Nat} {ys : List Int} {c : Array Value} (h : Sty w B a n cap ys) (hp : w.heap[p]? = some (.cells c 35 (0, 0))) : some p ≠ (Value.slice a n cap).ownBlock := by
  rcases h.2 with ⟨e, hn⟩ | ⟨g, c', cur, e, _, hg, _⟩
  · simp only [Value.slice.injEq] at e
    rw [e.1]; simp [Value.ownBlock]
  · simp only [Value.slice.injEq] at e
    rw [e.1]
    simp only [Value.ownBlock, ne_eq, Option.some.injEq]
    intro e2
    rw [e2, hg] at hp
    simp at hp

theorem Sty.kept {w w' : World} {B : Nat} {a : Option Addr} {n cap : Nat} {ys : List Int} {row : Option Nat} (h : Sty w B a n cap ys) (hg : w.grownBy w' row) (hne : (Value.slice a n cap).ownBlock = none ∨ (Value.slice a n cap).ownBlock ≠ row) : Sty w' B a n cap ys :=
  World.ownsRow.kept h hg hne

theorem grown_set (w : World) (p : Nat) (v : Value) : w.grownBy (w.setCell ⟨p, 0, none⟩ v) (some p) :=
  ⟨rfl, rfl, rfl, by simp [World.setCell], fun k _ hk => heap_setCell_other w _ k v (by simpa using hk)⟩

set_option maxHeartbeats 400000 in
theorem of_old (p g n cap : Nat) (ys : List Int) (z : Int) (w : World) (hn : ys.length = n) (hm : n ≤ 5000) (hp : w.cell? ⟨p, 0, none⟩ = some (.slice (some ⟨g, 0, none⟩) n cap))
    (hc : ∀ j, j < ys.length → w.cell? ⟨g, j, none⟩ = some (.int .i64 (ys[j]?.getD 0))) (hz : z ∈ ys) :
    Calls Try.prog 13 #[.pointer (some ⟨p, 0, none⟩), .int .i64 z] w fun e w' => ∃ i : Nat, i < n ∧ ys[i]?.getD 0 = z ∧ e = .returned (.int .i64 ((i + 1 : Nat) : Int)) ∧ w' = w := by
  have HN : Hid (ys.length = n) := hn
  have HZ : Hid (z ∈ ys) := hz
  have HC : Hid (∀ j, j < ys.length → w.cell? ⟨g, j, none⟩ = some (.int .i64 (ys[j]?.getD 0))) := hc
  clear hn hz hc
  go_enter Try.func13, Try.ntmps13
  go_wp2_with fail
  refine (index_yes g n cap ys z w HN.out (by omega) HC.out HZ.out).mono ?_
  rintro e w' ⟨i, hi, hiz, rfl, rfl⟩
  have HIZ : Hid (ys[i]?.getD 0 = z) := hiz
  clear hiz
  go_wp2
  go_ret
  exact ⟨i, hi, HIZ.out, ret_int (by omega), rfl⟩

set_option maxHeartbeats 400000 in
theorem of_new (p B n cap : Nat) (a : Option Addr) (ys : List Int) (z : Int) (w : World) (hm : n ≤ 5000) (hp : w.heap[p]? = some (.cells #[.slice a n cap] 35 (0, 0)))
    (hs : Sty w B a n cap ys) (hB : B ≤ w.heap.size) (hz : ∀ j, j < ys.length → ys[j]?.getD 0 ≠ z) :
    Calls Try.prog 13 #[.pointer (some ⟨p, 0, none⟩), .int .i64 z] w fun e w' => e = .returned (.int .i64 ((n + 1 : Nat) : Int)) ∧ ∃ g' cap', w'.heap[p]? = some (.cells #[.slice (some ⟨g', 0, none⟩) (n + 1) cap'] 35 (0, 0)) ∧ Sty w' B (some ⟨g', 0, none⟩) (n + 1) cap' (ys ++ [z]) ∧ Two p (Value.slice a n cap).ownBlock w w' := by
  have HP : Hid (w.heap[p]? = some (.cells #[.slice a n cap] 35 (0, 0))) := hp
  have hcp : w.cell? ⟨p, 0, none⟩ = some (.slice a n cap) := cell_of_row w p 0 _ 35 (0, 0) hp
  have HS : Hid (Sty w B a n cap ys) := hs
  have HZ : Hid (∀ j, j < ys.length → ys[j]?.getD 0 ≠ z) := hz
  clear hp hs hz
  go_enter Try.func13, Try.ntmps13
  go_wp2_with fail
  refine (index_no a n cap ys z w HS.out.length (by omega) HS.out.ints HZ.out).mono ?_
  rintro e w' ⟨rfl, rfl⟩
  go_wp2_with (with_reducible refine wpl_append1 Try.underlying26 info3 B n cap a ys z w'.heap.size ?c1 ?c2 ?c3 ?c4 hm ?c5 ?_)
  case c1 => rfl
  case c2 => rfl
  case c3 => exact cell_of_row _ _ 0 #[.int .i64 z] 3 (0, 0) (heap_alloc_new w' _)
  case c4 => exact World.ownsRow.alloc HS.out _
  case c5 => simp; omega
  intro g' cap' w1 HS1 HG1
  have hlt : p < w'.heap.size := (Array.getElem?_eq_some_iff.1 HP.out).1
  have hp1 : w1.heap[p]? = some (.cells #[.slice a n cap] 35 (0, 0)) := by
    rw [HG1.out.block p (by simp; omega) (HS.out.apart HP.out), Below.heap_alloc w' _ p hlt]
    exact HP.out
  have hc1 : w1.cell? ⟨p, 0, none⟩ = some (.slice a n cap) := cell_of_row w1 p 0 _ 35 (0, 0) hp1
  have hf1 : w1.frozen? ⟨p, 0, none⟩ = false := frozen_of_row w1 p 0 _ 35 hp1
  have HP1 : Hid (w1.heap[p]? = some (.cells #[.slice a n cap] 35 (0, 0))) := hp1
  clear hp1 hlt hcp
  go_wp2_with fail
  go_ret
  refine ⟨ret_int (by omega), g', cap', ?_, ?_, ?_⟩
  · have h := heap_setCell_same w1 p 0 _ 35 (.slice (some ⟨g', 0, none⟩) (n + 1) cap') HP1.out
    rw [h]; rfl
  · exact HS1.out.kept (grown_set w1 p _) (.inr (fun e => HS1.out.apart HP1.out e.symm))
  · have hg := HG1.out
    have hg2 := grown_set w1 p (.slice (some ⟨g', 0, none⟩) (n + 1) cap')
    refine ⟨hg.os, hg.tape, hg.output, ?_, ?_⟩
    · have := hg.size; have := hg2.size; simp at *; omega
    · intro k hk hkp hko
      rw [hg2.block k (by have := hg.size; simp at this; omega) (by simpa using hkp), hg.block k (by simp; omega) hko]
      exact Below.heap_alloc w' _ k hk
end Go.Proofs.Qxb6600855a
