import Derived.Test.Qxb6600502aClone
import Derived.RegionTactic
import Derived.Deep.RegionLaw
namespace Go.Proofs.Qxb6600502a
open Go.RowKit

/-- copy(dst, src) into a row of bytes as one step of a region that draws its order -/
theorem step_copy {P : Program} {w : World} {ops : Array Oper} {o : Oper} {a : Act} {K : Act → World → Prop} {Q : Exit → Act → World → Prop} {E : Prop} (hgd : o.guard = none)
    (d s : Operand) (dT sT : TypeId) (ho : o.op = .call { callee := .builtin .copy, args := #[d, s], argTypes := #[dT, sT] }) (hu : P.underlying dT = some (.slice 5)) (hsz : (P.info? 5).map (·.size) = some 1)
    (g off dLen dCap : Nat) (ad : Addr) (sLen sCap : Nat) (hd : a.eval d = .slice (some ⟨g, off, none⟩) dLen dCap) (hs : a.eval s = .slice (some ad) sLen sCap)
    (cur : List Int) (hg : RowB w g cur) (cs : List Int) (hn : cs.length = Nat.min sLen dLen)
    (hsrc : ∀ j, j < cs.length → w.cell? (ad.add j) = some (.int .u8 (cs.getD j 0))) (hfit : off + cs.length ≤ cur.length)
    (h : ∀ w', Hid (RowB w' g (cur.take off ++ (cs ++ cur.drop (off + cs.length)))) → Hid (Wrote g w w') → K (a.put o.dst (goInt cs.length)) w') :
    if Region.wanted o (yielded ops a.tmps) = true then Oper.wp P o a w K Q else E := by
  have hw : Region.wanted o (yielded ops a.tmps) = true := by simp [Region.wanted, hgd]
  rw [if_pos hw]
  have hrun := run_copy_row (P := P) w dT sT o.type 5 g off dLen dCap ad sLen sCap (cur.map (Value.int .u8)).toArray 5 (cs.map (Value.int .u8)) hu hsz hg (by simpa using hn) ?_ (by simpa using hfit) (ints_oneCell _ _)
  · unfold Oper.wp
    simp [execOp, ho, resolve, invoke, builtin, hd, hs, hrun, Result.andThen]
    refine h _ ?_ ?_
    · show RowB _ _ _
      unfold RowB
      rw [setRow_heap w g _ _ 5 _ hg]
      simp
    · exact Wrote.setRow _ _ _
  · intro j v hv
    obtain ⟨hj, hv⟩ := List.getElem?_eq_some_iff.1 hv
    rw [hsrc j (by simpa using hj)]
    simp at hj hv
    simp [hj, hv]

/-- the framed row: the room's head stays, the prefix lies behind it, the message stays -/
def framed (zs pre : List Int) : List Int := zs.take (5 - pre.length) ++ (pre ++ zs.drop 5)

theorem new_cell (w : World) (cs : Array Value) (t : TypeId) (j : Nat) : (w.alloc (.cells cs t)).drew.cell? ((⟨w.heap.size, 0, none⟩ : Addr).add j) = cs[j]? := by
  have hadd : (⟨w.heap.size, 0, none⟩ : Addr).add j = ⟨w.heap.size, j, none⟩ := by unfold Addr.add; split <;> simp_all
  rw [hadd]
  exact cell_of_row (w.alloc (.cells cs t)).drew w.heap.size j cs t (0, 0) (heap_alloc_new w _)

theorem src1 (w : World) (a : Int) (x1 x2 x3 x4 : Value) : ∀ j, j < [a].length →
    (w.alloc (.cells #[.int .u8 a, x1, x2, x3, x4] 40)).drew.cell? ((⟨w.heap.size, 0, none⟩ : Addr).add j) = some (.int .u8 ([a].getD j 0)) := by
  intro j hj
  rw [new_cell]
  match j, hj with
  | 0, _ => rfl

theorem src2 (w : World) (a b : Int) (x2 x3 x4 : Value) : ∀ j, j < [a, b].length →
    (w.alloc (.cells #[.int .u8 a, .int .u8 b, x2, x3, x4] 40)).drew.cell? ((⟨w.heap.size, 0, none⟩ : Addr).add j) = some (.int .u8 ([a, b].getD j 0)) := by
  intro j hj
  rw [new_cell]
  match j, hj with
  | 0, _ => rfl
  | 1, _ => rfl

theorem src3 (w : World) (a b c : Int) (x3 x4 : Value) : ∀ j, j < [a, b, c].length →
    (w.alloc (.cells #[.int .u8 a, .int .u8 b, .int .u8 c, x3, x4] 40)).drew.cell? ((⟨w.heap.size, 0, none⟩ : Addr).add j) = some (.int .u8 ([a, b, c].getD j 0)) := by
  intro j hj
  rw [new_cell]
  match j, hj with
  | 0, _ => rfl
  | 1, _ => rfl
  | 2, _ => rfl

theorem grown_of {g : Nat} {w w' : World} {o : Obj} (hw : Wrote g (w.alloc o).drew w') : w.grownBy w' (some g) :=
  ⟨hw.os, hw.tape, hw.output, by rw [hw.size]; show _ ≤ (w.alloc o).heap.size; simp, fun k hk hne => (hw.block k (fun e => hne (by rw [e]))).trans (Below.heap_alloc w o k hk)⟩

theorem row_of {w : World} {g : Nat} {zs : List Int} (h : Hid (RowB w g zs)) (o : Obj) : RowB (w.alloc o).drew g zs :=
  RowB.of_block (w := w) h (Below.heap_alloc w o g (RowB.lt h))

theorem min_len (k L n : Nat) (h : k + n ≤ L) : k = Nat.min k (L - n) := by
  show k = min k (L - n)
  omega


set_option maxHeartbeats 400000 in
theorem frame_2 (g L : Nat) (zs : List Int) (w : World) (hL : zs.length = L) (hm : L ≤ 1048576) (h1 : 133 ≤ L) (h2 : L < 16389) (hg : RowB w g zs) :
    Calls Try.prog 29 #[.slice (some ⟨g, 0, none⟩) L L] w fun e w' => e = .returned (.slice (some ⟨g, 3, none⟩) (L - 3) (L - 3)) ∧
      RowB w' g (framed zs [bits BinOp.or IntKind.u8 (((L : Int) - 5) % 256) 128, ((L : Int) - 5) / 128]) ∧ w.grownBy w' (some g) := by
  have HL : Hid (zs.length = L) := hL
  have HG : Hid (RowB w g zs) := hg
  clear hL hg
  have e1 : (3 : Int) ≤ (L : Int) := by omega
  have e2 : ¬ L = 3 := by omega
  go_enter Try.func29, Try.ntmps29
  go_wp2_with fail
  go_rounds 3
  go_region_law (refine step_copy rfl (.tmp 31) (.tmp 33) 22 22 rfl Try.underlying22 size5 g 3 (L - 3) (L - 3) ⟨w.heap.size, 0, none⟩ 2 5 (by simp [Act.eval, Act.put]) (by simp [Act.eval, Act.put]) zs (row_of HG _) [bits BinOp.or IntKind.u8 (((L : Int) - 5) % 256) 128, ((L : Int) - 5) / 128] (min_len 2 L 3 (by omega)) (src2 _ _ _ _ _ _) (by have := HL.out; simp; omega) ?_; intro w1 hr hw)
  go_wp2
  go_ret
  exact ⟨rfl, hr.out, grown_of hw.out⟩

set_option maxHeartbeats 400000 in
theorem frame_1 (g L : Nat) (zs : List Int) (w : World) (hL : zs.length = L) (h1 : 5 ≤ L) (h2 : L < 133) (hg : RowB w g zs) :
    Calls Try.prog 29 #[.slice (some ⟨g, 0, none⟩) L L] w fun e w' => e = .returned (.slice (some ⟨g, 4, none⟩) (L - 4) (L - 4)) ∧
      RowB w' g (framed zs [(L : Int) - 5]) ∧ w.grownBy w' (some g) := by
  have HL : Hid (zs.length = L) := hL
  have HG : Hid (RowB w g zs) := hg
  clear hL hg
  have e1 : (4 : Int) ≤ (L : Int) := by omega
  have e2 : ¬ L = 4 := by omega
  go_enter Try.func29, Try.ntmps29
  go_wp2_with fail
  go_rounds 3
  go_region_law (refine step_copy rfl (.tmp 31) (.tmp 33) 22 22 rfl Try.underlying22 size5 g 4 (L - 4) (L - 4) ⟨w.heap.size, 0, none⟩ 1 5 (by simp [Act.eval, Act.put]) (by simp [Act.eval, Act.put]) zs (row_of HG _) [(L : Int) - 5] (min_len 1 L 4 (by omega)) (src1 _ _ _ _ _ _) (by have := HL.out; simp; omega) ?_; intro w1 hr hw)
  go_wp2
  go_ret
  exact ⟨rfl, hr.out, grown_of hw.out⟩

set_option maxHeartbeats 400000 in
theorem frame_3 (g L : Nat) (zs : List Int) (w : World) (hL : zs.length = L) (h1 : 16389 ≤ L) (h2 : L ≤ 1048576) (hg : RowB w g zs) :
    Calls Try.prog 29 #[.slice (some ⟨g, 0, none⟩) L L] w fun e w' => e = .returned (.slice (some ⟨g, 2, none⟩) (L - 2) (L - 2)) ∧
      RowB w' g (framed zs [bits BinOp.or IntKind.u8 (((L : Int) - 5) % 256) 128, bits BinOp.or IntKind.u8 (((L : Int) - 5) / 128 % 256) 128, ((L : Int) - 5) / 128 / 128]) ∧ w.grownBy w' (some g) := by
  have HL : Hid (zs.length = L) := hL
  have HG : Hid (RowB w g zs) := hg
  clear hL hg
  have e1 : (2 : Int) ≤ (L : Int) := by omega
  have e2 : ¬ L = 2 := by omega
  go_enter Try.func29, Try.ntmps29
  go_wp2_with fail
  go_rounds 3
  go_region_law (refine step_copy rfl (.tmp 31) (.tmp 33) 22 22 rfl Try.underlying22 size5 g 2 (L - 2) (L - 2) ⟨w.heap.size, 0, none⟩ 3 5 (by simp [Act.eval, Act.put]) (by simp [Act.eval, Act.put]) zs (row_of HG _) [bits BinOp.or IntKind.u8 (((L : Int) - 5) % 256) 128, bits BinOp.or IntKind.u8 (((L : Int) - 5) / 128 % 256) 128, ((L : Int) - 5) / 128 / 128] (min_len 3 L 2 (by omega)) (src3 _ _ _ _ _ _) (by have := HL.out; simp; omega) ?_; intro w1 hr hw)
  go_wp2
  go_ret
  exact ⟨rfl, hr.out, grown_of hw.out⟩
end Go.Proofs.Qxb6600502a
