/- Decimal texts: no Go in sight. -/
import Derived.Test.Qxb6600502aNum
namespace Go.Proofs.Qxb6600502a.Num

/-- the decimal text of u, with f rounds to spend -/
def txt : Nat → Nat → List Int
  | 0, u => [48 + (u : Int) % 10]
  | f + 1, u => if u < 10 then [48 + (u : Int) % 10] else txt f (u / 10) ++ [48 + (u : Int) % 10]

def isDigits (l : List Int) : Prop := ∀ c ∈ l, 48 ≤ c ∧ c ≤ 57

theorem txt_length (f : Nat) : ∀ u, 1 ≤ (txt f u).length ∧ (txt f u).length ≤ f + 1 := by
  induction f with
  | zero => intro u; simp [txt]
  | succ f ih =>
    intro u
    have := ih (u / 10)
    unfold txt
    split
    · simp
    · simp; omega

theorem txt_digits (f : Nat) : ∀ u, isDigits (txt f u) := by
  induction f with
  | zero => intro u c hc; simp only [txt, List.mem_singleton] at hc; omega
  | succ f ih =>
    intro u c hc
    unfold txt at hc
    split at hc
    · simp only [List.mem_singleton] at hc; omega
    · simp only [List.mem_append, List.mem_singleton] at hc
      rcases hc with hc | hc
      · exact ih _ c hc
      · omega

/-- no zero leads, but for the text of zero itself -/
theorem txt_head (f : Nat) : ∀ u, u < 10 ^ (f + 1) → txt f u = [48] ∨ (49 : Int) ≤ (txt f u)[0]?.getD 0 := by
  induction f with
  | zero =>
    intro u h
    have : u < 10 := by simpa using h
    by_cases h0 : u = 0
    · subst h0; left; rfl
    · right; simp [txt]; omega
  | succ f ih =>
    intro u h
    unfold txt
    split
    · by_cases h0 : u = 0
      · subst h0; left; rfl
      · right; simp; omega
    · have hl := (txt_length f (u / 10)).1
      right
      rw [List.getElem?_append_left (by omega)]
      rcases ih (u / 10) (by rw [Nat.pow_succ] at h; omega) with e | e
      · exfalso
        -- the text of a number that is not zero is not the text of zero
        have hu : 1 ≤ u / 10 := by omega
        have key : ∀ (f u : Nat), 1 ≤ u → u < 10 ^ (f + 1) → txt f u ≠ [48] := by
          intro f
          induction f with
          | zero =>
            intro u h1 h2 e
            have : u < 10 := by simpa using h2
            simp only [txt, List.cons.injEq, and_true] at e
            omega
          | succ f _ =>
            intro u h1 h2 e
            unfold txt at e
            split at e
            · simp only [List.cons.injEq, and_true] at e; omega
            · have := congrArg List.length e
              have hl := (txt_length f (u / 10)).1
              simp only [List.length_append, List.length_cons, List.length_nil] at this
              omega
        exact key f (u / 10) hu (by rw [Nat.pow_succ] at h; omega) e
      · exact e

/-- the value, read from the left -/
def one10 (n c : Int) : Int := n * 10 + (c - 48)
def vd (n : Int) (l : List Int) : Int := l.foldl one10 n
theorem vd_nil (n : Int) : vd n [] = n := by unfold vd; exact List.foldl_nil
theorem vd_cons (n c : Int) (t : List Int) : vd n (c :: t) = vd (one10 n c) t := by unfold vd; exact List.foldl_cons ..
theorem vd_append (a b : List Int) (n : Int) : vd n (a ++ b) = vd (vd n a) b := by unfold vd; exact List.foldl_append ..

theorem vd_txt (f : Nat) : ∀ u, u < 10 ^ (f + 1) → vd 0 (txt f u) = u := by
  induction f with
  | zero =>
    intro u h
    have : u < 10 := by simpa using h
    simp only [txt, vd_cons, vd_nil, one10]
    omega
  | succ f ih =>
    intro u h
    unfold txt
    split
    · simp only [vd_cons, vd_nil, one10]; omega
    · rw [vd_append, ih (u / 10) (by rw [Nat.pow_succ] at h; omega)]
      simp only [vd_cons, vd_nil, one10]
      omega

theorem vd_take (l : List Int) (k : Nat) (h : k < l.length) : vd 0 (l.take (k + 1)) = vd 0 (l.take k) * 10 + (l[k]?.getD 0 - 48) := by
  rw [List.take_succ_eq_append_getElem h, vd_append, vd_cons, vd_nil, one10]
  simp [h]

theorem vd_bounds (l : List Int) (hl : isDigits l) : ∀ k, k ≤ l.length → 0 ≤ vd 0 (l.take k) ∧ vd 0 (l.take k) < 10 ^ k := by
  intro k
  induction k with
  | zero => intro _; simp [vd_nil]
  | succ k ih =>
    intro hk
    have := ih (by omega)
    rw [vd_take l k (by omega), Int.pow_succ]
    have hc := hl l[k] (List.getElem_mem _)
    have e : l[k]?.getD 0 = l[k] := by simp [show k < l.length by omega]
    rw [e]
    omega

/-- digits alone: all of them are passed over -/
theorem dig_all (l : List Int) (h : isDigits l) : dig l = l.length := by
  induction l with
  | nil => rfl
  | cons c t ih =>
    have hc := h c (by simp)
    rw [dig, if_pos hc, ih (fun x hx => h x (by simp [hx]))]
    rfl

/-- a whole number is matched whole -/
theorem scan_whole (zs D : List Int) (i : Nat) (hz : S0 zs = i) (hd : zs.drop i = D) (hl : isDigits D) (h1 : 1 ≤ D.length) (hh : D = [48] ∨ (49 : Int) ≤ D[0]?.getD 0) : scan zs = some zs.length := by
  have hlen : zs.length = i + D.length := by
    have := congrArg List.length hd
    simp at this
    omega
  have hil : i < zs.length := by omega
  have hci : zs[i]?.getD 0 = D[0]?.getD 0 := by rw [← hd]; simp
  have e2 : S2 zs zs.length = some zs.length := by unfold S2; rw [if_neg (by omega)]
  have e3 : S3 zs zs.length = some zs.length := by unfold S3; rw [if_neg (by omega)]
  have e1 : S1 zs i = some zs.length := by
    unfold S1
    rw [if_pos hil, hci]
    rcases hh with rfl | hh
    · simp at hlen
      simp [hlen]
    · have hc := hl (D[0]?.getD 0) (by rw [List.getElem?_eq_getElem (by omega)]; simp)
      rw [if_neg (by omega), if_pos ⟨hh, hc.2⟩, hd, dig_all D hl, hlen]
  unfold scan
  rw [hz, e1, Option.bind_some, e2, Option.bind_some, e3]

end Go.Proofs.Qxb6600502a.Num
