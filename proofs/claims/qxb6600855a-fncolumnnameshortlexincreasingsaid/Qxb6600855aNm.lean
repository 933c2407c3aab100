/- Column names as bijective base-26 numerals: no Go in sight. -/
import GoSem.Op.String
namespace Go.Proofs.Qxb6600855a.Nm

/-- the name of column i, with b rounds to spend -/
def nm : Nat → Nat → List UInt8
  | 0, i => [UInt8.ofNat (65 + i % 26)]
  | b + 1, i => if i < 26 then [UInt8.ofNat (65 + i % 26)] else nm b (i / 26 - 1) ++ [UInt8.ofNat (65 + i % 26)]

theorem length_nm : ∀ (b i : Nat), 1 ≤ (nm b i).length ∧ (nm b i).length ≤ b + 1
  | 0, i => by simp [nm]
  | b + 1, i => by
    have := length_nm b (i / 26 - 1)
    unfold nm
    split
    · simp
    · simp; omega

/-- every byte is one of the letters A to Z -/
def letters (l : List UInt8) : Prop := ∀ c ∈ l, 65 ≤ c.toNat ∧ c.toNat ≤ 90

theorem letter (i : Nat) : (UInt8.ofNat (65 + i % 26)).toNat = 65 + i % 26 := by
  rw [UInt8.toNat_ofNat']
  omega

theorem letters_nm : ∀ (b i : Nat), letters (nm b i)
  | 0, i => by intro c hc; simp only [nm, List.mem_singleton] at hc; subst hc; rw [letter]; omega
  | b + 1, i => by
    have ih := letters_nm b (i / 26 - 1)
    intro c hc
    unfold nm at hc
    split at hc
    · simp only [List.mem_singleton] at hc; subst hc; rw [letter]; omega
    · simp only [List.mem_append, List.mem_singleton] at hc
      rcases hc with hc | hc
      · exact ih c hc
      · subst hc; rw [letter]; omega

/-- one letter more -/
def one (x : Nat) (c : UInt8) : Nat := x * 26 + (c.toNat - 64)

theorem one_eq (x : Nat) (c : UInt8) : one x c = x * 26 + (c.toNat - 64) := by unfold one; exact Eq.refl _

/-- the numeral read from the left, x having been read already -/
def valFrom (x : Nat) (l : List UInt8) : Nat := l.foldl one x

theorem valFrom_nil (x : Nat) : valFrom x [] = x := by unfold valFrom; exact List.foldl_nil
theorem valFrom_cons (x : Nat) (c : UInt8) (t : List UInt8) : valFrom x (c :: t) = valFrom (one x c) t := by unfold valFrom; exact List.foldl_cons ..
theorem valFrom_append (a b : List UInt8) (x : Nat) : valFrom x (a ++ b) = valFrom (valFrom x a) b := by unfold valFrom; exact List.foldl_append ..

theorem val_nm (b : Nat) : ∀ i, i < 2 ^ b → valFrom 0 (nm b i) = i + 1 := by
  induction b with
  | zero =>
    intro i h
    obtain rfl : i = 0 := by simp at h; exact h
    simp only [nm, valFrom_cons, valFrom_nil, one_eq, letter]
  | succ b ih =>
    intro i h
    have e : (UInt8.ofNat (65 + i % 26)).toNat = 65 + i % 26 := letter i
    unfold nm
    split
    · simp only [valFrom_cons, valFrom_nil, one_eq, e]; omega
    · have ih := ih (i / 26 - 1) (by rw [Nat.pow_succ] at h; omega)
      rw [valFrom_append, ih]
      simp only [valFrom_cons, valFrom_nil, one_eq, e]
      omega

theorem valFrom_ge (l : List UInt8) : ∀ x, x ≤ valFrom x l := by
  induction l with
  | nil => intro x; rw [valFrom_nil]; exact Nat.le_refl _
  | cons c t ih => intro x; rw [valFrom_cons]; have := ih (one x c); rw [one_eq] at this ⊢; omega

/-- what has been read behind k letters and the next one -/
theorem val_take (l : List UInt8) (k : Nat) (h : k < l.length) : valFrom 0 (l.take (k + 1)) = valFrom 0 (l.take k) * 26 + (l[k].toNat - 64) := by
  rw [List.take_succ_eq_append_getElem h, valFrom_append, valFrom_cons, valFrom_nil, one_eq]

theorem val_take_le (l : List UInt8) (k : Nat) : valFrom 0 (l.take k) ≤ valFrom 0 l := by
  conv => rhs; rw [← List.take_append_drop k l, valFrom_append]
  exact valFrom_ge _ _

/-- at equal lengths a greater head wins -/
theorem val_lt : ∀ (a b : List UInt8) (x y : Nat), a.length = b.length → letters a → letters b → x < y → valFrom x a < valFrom y b
  | [], [], x, y, _, _, _, h => by rw [valFrom_nil, valFrom_nil]; exact h
  | c :: a, d :: b, x, y, hl, ha, hb, h => by
    rw [valFrom_cons, valFrom_cons]
    have hc := ha c (by simp)
    have hd := hb d (by simp)
    refine val_lt a b _ _ (by simpa using hl) (fun z hz => ha z (by simp [hz])) (fun z hz => hb z (by simp [hz])) ?_
    rw [one_eq, one_eq]
    omega

theorem lex_of_val : ∀ (a b : List UInt8) (x : Nat), a.length = b.length → letters a → letters b → valFrom x a < valFrom x b → Go.Op.bytesLess a b = true
  | [], [], x, _, _, _, h => absurd h (Nat.lt_irrefl _)
  | c :: a, d :: b, x, hl, ha, hb, h => by
    have hc := ha c (by simp)
    have hd := hb d (by simp)
    rw [valFrom_cons, valFrom_cons] at h
    have hl' : a.length = b.length := by simpa using hl
    have ha' : letters a := fun z hz => ha z (by simp [hz])
    have hb' : letters b := fun z hz => hb z (by simp [hz])
    rcases Nat.lt_trichotomy c.toNat d.toNat with h1 | h1 | h1
    · have : c < d := h1
      simp [Go.Op.bytesLess, this]
    · have e : c = d := UInt8.toNat_inj.1 h1
      subst e
      have := lex_of_val a b _ hl' ha' hb' h
      simp [Go.Op.bytesLess, this]
    · exact absurd (val_lt b a (one x d) (one x c) hl'.symm hb' ha' (by rw [one_eq, one_eq]; omega)) (by omega)

/-- the least numeral of n letters -/
def lo : Nat → Nat
  | 0 => 0
  | n + 1 => lo n * 26 + 1

theorem lo_mono (m : Nat) : ∀ n, m ≤ n → lo m ≤ lo n := by
  intro n h
  induction n with
  | zero => have : m = 0 := by omega
            subst this; exact Nat.le_refl _
  | succ n ih =>
    by_cases e : m = n + 1
    · subst e; exact Nat.le_refl _
    · have := ih (by omega)
      simp only [lo]
      omega

/-- a numeral of n letters lies between the least of n and the least of n + 1 -/
theorem val_bounds (l : List UInt8) (h : letters l) : ∀ k, k ≤ l.length → lo k ≤ valFrom 0 (l.take k) ∧ valFrom 0 (l.take k) < lo (k + 1) := by
  intro k
  induction k with
  | zero => intro _; simp [valFrom_nil, lo]
  | succ k ih =>
    intro hk
    have := ih (by omega)
    rw [val_take l k (by omega)]
    have hc := h l[k] (List.getElem_mem _)
    simp only [lo] at this ⊢
    omega

theorem val_bounds_all (l : List UInt8) (h : letters l) : lo l.length ≤ valFrom 0 l ∧ valFrom 0 l < lo (l.length + 1) := by
  have := val_bounds l h l.length (Nat.le_refl _)
  rwa [List.take_length] at this

theorem length_of_val (a b : List UInt8) (ha : letters a) (hb : letters b) (h : valFrom 0 a < valFrom 0 b) : a.length ≤ b.length := by
  by_cases hl : a.length ≤ b.length
  · exact hl
  · have h1 := (val_bounds_all a ha).1
    have h2 := (val_bounds_all b hb).2
    have h3 := lo_mono (b.length + 1) a.length (by omega)
    omega

/-- THE PLAIN LAW of the second statement -/
theorem shortlex (b i j : Nat) (hi : i < j) (hj : j < 2 ^ b) :
    (nm b i).length < (nm b j).length ∨ ((nm b i).length = (nm b j).length ∧ Go.Op.bytesLess (nm b i) (nm b j) = true) := by
  have vi := val_nm b i (by omega)
  have vj := val_nm b j hj
  have hl := length_of_val (nm b i) (nm b j) (letters_nm b i) (letters_nm b j) (by omega)
  by_cases e : (nm b i).length = (nm b j).length
  · exact .inr ⟨e, lex_of_val _ _ 0 e (letters_nm b i) (letters_nm b j) (by omega)⟩
  · exact .inl (by omega)

end Go.Proofs.Qxb6600855a.Nm
