import Derived.Test.Qxb6600502aRows
import Derived.WalkKit
import Derived.WalkSpells
import Derived.WalkLawsBesides
import Derived.Laws.CopyOwn
import Derived.Deep.OwnRows
import Derived.Handy
namespace Go.Proofs.Qxb6600502a
open Go.RowKit

theorem info5 : (Try.prog.info? 5).map (fun i => (i.zero, i.size, i.bytes)) = some (some (.int .u8 0), 1, 1) := by kernel_rfl
theorem size5 : (Try.prog.info? 5).map (·.size) = some 1 := by kernel_rfl

/-- block 'g' alone has been written: its number of blocks, the streams and every other block are as they were -/
structure Wrote (g : Nat) (w w' : World) : Prop where
  os : w'.os = w.os
  tape : w'.tape = w.tape
  output : w'.output = w.output
  size : w'.heap.size = w.heap.size
  block : ∀ k, k ≠ g → w'.heap[k]? = w.heap[k]?

theorem Wrote.below {g B : Nat} {w w' : World} (h : Wrote g w w') (hB : B ≤ g) : Below B w w' :=
  ⟨h.os, h.tape, h.output, Nat.le_of_eq h.size.symm, fun k hk => h.block k (by omega)⟩

theorem Wrote.setRow (w : World) (g : Nat) (cs : Array Value) : Wrote g w (w.setRow g cs) :=
  ⟨rfl, rfl, rfl, by simp, fun k hk => setRow_other w g k cs hk⟩

/-- block 'g' is a row of bytes that may be written -/
def RowB (w : World) (g : Nat) (zs : List Int) : Prop := w.heap[g]? = some (.cells (zs.map (Value.int .u8)).toArray 5 (0, 0))

theorem RowB.lt {w : World} {g : Nat} {zs : List Int} (h : RowB w g zs) : g < w.heap.size := (Array.getElem?_eq_some_iff.1 h).1

theorem RowB.cell {w : World} {g : Nat} {zs : List Int} (h : RowB w g zs) {j : Nat} (hj : j < zs.length) : w.cell? ⟨g, j, none⟩ = some (.int .u8 (zs[j]?.getD 0)) := by
  rw [cell_of_row w g j _ 5 (0, 0) h]
  simp [hj]

theorem RowB.free {w : World} {g : Nat} {zs : List Int} (h : RowB w g zs) (j : Nat) : w.frozen? ⟨g, j, none⟩ = false := frozen_of_row w g j _ 5 h

theorem RowB.of_block {w w' : World} {g : Nat} {zs : List Int} (h : RowB w g zs) (e : w'.heap[g]? = w.heap[g]?) : RowB w' g zs := by
  unfold RowB; rw [e]; exact h

theorem RowB.set {w : World} {g : Nat} {zs : List Int} (h : RowB w g zs) (i : Nat) (n : Int) : RowB (w.setCell ⟨g, i, none⟩ (.int .u8 n)) g (zs.set i n) := by
  have h2 := heap_setCell_same w g i _ 5 (.int .u8 n) h
  unfold RowB
  rw [h2]
  simp [List.map_set]

theorem Wrote.setCell (w : World) (g i : Nat) (v : Value) : Wrote g w (w.setCell ⟨g, i, none⟩ v) :=
  ⟨rfl, rfl, rfl, by simp [World.setCell], fun k hk => heap_setCell_other w _ k v hk⟩

/-- copy(dst, src) into a row of bytes of the call's own, the operation written out -/
theorem wpl_copy {P : Program} {w : World} {ops : Array Oper} {rest : List Oper} {a : Act} {Q : Exit → Act → World → Prop} {dst : Option Tmp} {ty : TypeId} {pos : String} {after : Array Edge}
    {d s : Operand} {dT sT : TypeId} (hu : P.underlying dT = some (.slice 5)) (hsz : (P.info? 5).map (·.size) = some 1)
    (g off dLen dCap : Nat) (ad : Addr) (sLen sCap : Nat) (hd : a.eval d = .slice (some ⟨g, off, none⟩) dLen dCap) (hs : a.eval s = .slice (some ad) sLen sCap)
    (cur : List Int) (hg : RowB w g cur) (cs : List Int) (hn : cs.length = Nat.min sLen dLen)
    (hsrc : ∀ j, j < cs.length → w.cell? (ad.add j) = some (.int .u8 (cs.getD j 0))) (hfit : off + cs.length ≤ cur.length)
    (h : ∀ w', RowB w' g (cur.take off ++ (cs ++ cur.drop (off + cs.length))) → Wrote g w w' → wpList P ops Q rest (a.put dst (goInt cs.length)) w') :
    wpList P ops Q ({ dst := dst, op := .call { callee := .builtin .copy, args := #[d, s], argTypes := #[dT, sT] }, type := ty, pos := pos, after := after, guard := none } :: rest) a w := by
  refine wpList_copy_own rfl d s dT sT rfl 5 hu hsz g off dLen dCap ad sLen sCap hd hs (cur.map (Value.int .u8)).toArray 5 hg (cs.map (Value.int .u8)) (by simpa using hn) ?_ (by simpa using hfit) (ints_oneCell _ _) ?_
  · intro j v hv
    obtain ⟨hj, hv⟩ := List.getElem?_eq_some_iff.1 hv
    rw [hsrc j (by simpa using hj)]
    simp at hj hv
    simp [hj, hv]
  · have := h (w.setRow g ((cur.map (Value.int .u8)).toArray.toList.take off ++ (cs.map (Value.int .u8) ++ (cur.map (Value.int .u8)).toArray.toList.drop (off + (cs.map (Value.int .u8)).length))).toArray) ?_ (Wrote.setRow _ _ _)
    · simpa using this
    · unfold RowB
      rw [setRow_heap w g _ _ 5 _ hg]
      simp

theorem madeCells_zero (z : Value) (n : Nat) : madeCells #[z] n = (List.replicate n z).toArray := by
  apply Array.ext
  · simp [size_madeCells]
  · intro i h1 h2
    simp [madeCells, Nat.mod_one]

theorem take_cells {w : World} {x : Addr} {len : Nat} {zs : List Int} (hl : len ≤ zs.length) (hc : ∀ i, i < zs.length → w.cell? (x.add i) = some (.int .u8 (zs.getD i 0))) :
    ∀ i, i < (zs.take len).length → w.cell? (x.add i) = some (.int .u8 ((zs.take len).getD i 0)) := by
  intro i hi
  have hi2 : i < len := by simp at hi; omega
  rw [hc i (by omega)]
  simp [hi2]

set_option maxHeartbeats 400000 in
theorem clone_any (x : Addr) (len cap : Nat) (zs : List Int) (w : World) (hz : zs.length = len) (hm : len ≤ 1048576)
    (hc : ∀ i, i < zs.length → w.cell? (x.add i) = some (.int .u8 (zs.getD i 0))) :
    Calls Try.prog 11 #[.slice (some x) len cap] w fun e w' => e = .returned (.slice (some ⟨w.heap.size, 0, none⟩) len len) ∧
      RowB w' w.heap.size zs ∧ w'.heap.size = w.heap.size + 1 ∧ Below w.heap.size w w' := by
  have hmk := fun w => run_make_row' (P := Try.prog) 22 5 (.int .u8 0) 1 Try.underlying22 info5 rfl .i64 .i64 len (by omega) (by omega) w
  have hnil := fun w => Lib.run_eql_slice_nil (P := Try.prog) w 22 5 (some x) len cap 0 0 Try.underlying22
  have HZ : Hid (zs.length = len) := hz
  have HC : Hid (∀ i, i < zs.length → w.cell? (x.add i) = some (.int .u8 (zs.getD i 0))) := hc
  clear hz hc
  go_enter Try.func11, Try.ntmps11
  go_wp2_with (with_reducible refine wpl_copy Try.underlying22 size5 w.heap.size 0 len len x len cap ?c1 ?c2 (List.replicate len 0) ?c3 zs ?c4 ?c5 ?c6 ?_)
  case c1 => rfl
  case c2 => rfl
  case c3 => unfold RowB; rw [heap_alloc_new]; simp [madeCells_zero]
  case c4 => simpa using HZ.out
  case c5 =>
    intro j hj
    have h := HC.out j hj
    rw [← h]
    exact World.cell?_of_block (Below.heap_alloc w _ _ (block_lt_of_cell h))
  case c6 => simp; exact Nat.le_of_eq HZ.out
  intro w1 hr hw
  go_wp2
  go_ret
  have hr2 : RowB w1 w.heap.size zs := by
    have e : List.take 0 (List.replicate len (0 : Int)) ++ (zs ++ List.drop (0 + zs.length) (List.replicate len 0)) = zs := by
      have := HZ.out; simp; omega
    rw [e] at hr; exact hr
  exact ⟨rfl, hr2, by rw [hw.size]; simp, ((Below.refl _ _).alloc (Nat.le_refl _) _).trans (hw.below (Nat.le_refl _))⟩
end Go.Proofs.Qxb6600502a
