/-
  PLAIN: what parseFraction answers, on bytes. No Go in sight.
-/
namespace Go.Proofs.Qxb6605462a.PF

/-- The value of the digit at i; nought behind the text's end. -/
def D (s : ByteArray) (i : Nat) : Int := if h : i < s.size then (s[i].toNat : Int) - 48 else 0

/-- The first j digits (from index 1 on), padded by noughts, as a number. -/
def T (s : ByteArray) : Nat → Int
  | 0 => 0
  | j + 1 => 10 * T s j + D s (j + 1)

/-- Is the byte at i a digit? -/
def dig (s : ByteArray) (i : Nat) : Prop := ∃ h : i < s.size, (48 : Int) ≤ (s[i].toNat : Int) ∧ (s[i].toNat : Int) ≤ 57

/-- A point and at least one digit, nothing else. -/
def okP (s : ByteArray) : Prop := (∃ h : 0 < s.size, (s[0].toNat : Int) = 46) ∧ 2 ≤ s.size ∧ ∀ i, 1 ≤ i → i < s.size → dig s i

/-- The answer on a well-formed text. -/
def V (s : ByteArray) : Int := T s 6 + if 5 ≤ D s 7 then 1 else 0

/-- 'us' ahead of the round at index k. -/
def U (s : ByteArray) (k : Nat) : Int := T s (min (k - 1) 6) + if 8 ≤ k ∧ 5 ≤ D s 7 then 1 else 0

theorem D_lt {s : ByteArray} {i : Nat} (h : i < s.size) : D s i = (s[i].toNat : Int) - 48 := by simp [D, h]
theorem D_ge {s : ByteArray} {i : Nat} (h : s.size ≤ i) : D s i = 0 := by simp [D, Nat.not_lt.2 h]

theorem D_bd {s : ByteArray} {i : Nat} (h : i < s.size → dig s i) : 0 ≤ D s i ∧ D s i ≤ 9 := by
  by_cases hi : i < s.size
  · obtain ⟨_, h1, h2⟩ := h hi
    rw [D_lt hi]; omega
  · rw [D_ge (by omega)]; omega

theorem T_bd {s : ByteArray} {j : Nat} (h : ∀ i, 1 ≤ i → i ≤ j → i < s.size → dig s i) : 0 ≤ T s j ∧ T s j < 10 ^ j := by
  induction j with
  | zero => simp [T]
  | succ j ih =>
    have h1 := ih (fun i a b c => h i a (by omega) c)
    have h2 := D_bd (h (j + 1) (by omega) (by omega))
    have e : (10 : Int) ^ (j + 1) = 10 * 10 ^ j := by rw [Int.pow_succ]; omega
    rw [e]
    simp only [T]
    omega

theorem U_one (s : ByteArray) : U s 1 = 0 := by simp [U, T]

theorem U_low {s : ByteArray} {k : Nat} (h1 : 1 ≤ k) (h6 : k ≤ 7) : U s k = T s (k - 1) := by
  unfold U
  rw [if_neg (by omega), Nat.min_eq_left (by omega)]; omega

theorem U_step {s : ByteArray} {k : Nat} (h1 : 1 ≤ k) (h6 : k ≤ 6) (hk : k < s.size) : U s (k + 1) = 10 * U s k + ((s[k].toNat : Int) - 48) := by
  rw [U_low (by omega) (by omega), U_low h1 (by omega)]
  obtain ⟨j, rfl⟩ : ∃ j, k = j + 1 := ⟨k - 1, by omega⟩
  simp only [Nat.add_sub_cancel, T, D_lt hk]

theorem U_seven {s : ByteArray} (hk : 7 < s.size) : U s 8 = U s 7 + if (53 : Int) ≤ (s[7].toNat : Int) then 1 else 0 := by
  unfold U
  rw [D_lt hk]
  have e1 : min (8 - 1) 6 = 6 := by decide
  have e2 : min (7 - 1) 6 = 6 := by decide
  rw [e1, e2]
  by_cases h : (53 : Int) ≤ (s[7].toNat : Int)
  · rw [if_pos ⟨by omega, by omega⟩, if_neg (by omega), if_pos h]; omega
  · rw [if_neg (by omega), if_neg (by omega), if_neg h]; omega

theorem U_high {s : ByteArray} {k : Nat} (h : 8 ≤ k) : U s (k + 1) = U s k := by
  unfold U
  have e1 : min (k + 1 - 1) 6 = 6 := by omega
  have e2 : min (k - 1) 6 = 6 := by omega
  rw [e1, e2]
  by_cases h : 5 ≤ D s 7
  · rw [if_pos ⟨by omega, h⟩, if_pos ⟨by omega, h⟩]
  · rw [if_neg (by omega), if_neg (by omega)]

theorem U_bd {s : ByteArray} {k : Nat} (h : ∀ i, 1 ≤ i → i < k → i < s.size → dig s i) : 0 ≤ U s k ∧ U s k ≤ 1000000 := by
  have hT : 0 ≤ T s (min (k - 1) 6) ∧ T s (min (k - 1) 6) < 10 ^ (min (k - 1) 6) := T_bd (fun i a b c => h i a (by omega) c)
  have hp : (10 : Int) ^ (min (k - 1) 6) ≤ 1000000 := by
    have : min (k - 1) 6 = 0 ∨ min (k - 1) 6 = 1 ∨ min (k - 1) 6 = 2 ∨ min (k - 1) 6 = 3 ∨ min (k - 1) 6 = 4 ∨ min (k - 1) 6 = 5 ∨ min (k - 1) 6 = 6 := by omega
    rcases this with e | e | e | e | e | e | e <;> rw [e] <;> decide
  unfold U
  split <;> omega

/-- 'us' in the second loop ahead of the round at i. -/
def M (s : ByteArray) (i : Nat) : Int := U s (max i s.size)

theorem M_step {s : ByteArray} {i : Nat} (hi : s.size ≤ i) (h1 : 1 ≤ i) (h6 : i ≤ 6) : U s (i + 1) = U s i * 10 := by
  rw [U_low (by omega) (by omega), U_low h1 (by omega)]
  obtain ⟨j, rfl⟩ : ∃ j, i = j + 1 := ⟨i - 1, by omega⟩
  simp only [Nat.add_sub_cancel, T, D_ge hi]
  omega

/-- Behind both loops. -/
theorem U_end {s : ByteArray} {i : Nat} (hi : s.size ≤ i) (h7 : 7 ≤ i) : U s i = V s := by
  unfold U V
  have e2 : min (i - 1) 6 = 6 := by omega
  rw [e2]
  by_cases h8 : 8 ≤ i
  · simp [h8]
  · rw [if_neg (by omega), D_ge (s := s) (i := 7) (by omega), if_neg (by omega)]

theorem V_bd {s : ByteArray} (h : okP s) : 0 ≤ V s ∧ V s ≤ 1000000 := by
  have hT : 0 ≤ T s 6 ∧ T s 6 < 10 ^ 6 := T_bd (fun i a _ c => h.2.2 i a c)
  unfold V
  split <;> omega

theorem V_tenths {s : ByteArray} (h : okP s) : (T s 7 + 5) / 10 = V s := by
  have hd := D_bd (s := s) (i := 7) (fun c => h.2.2 7 (by omega) c)
  show (10 * T s 6 + D s 7 + 5) / 10 = T s 6 + if 5 ≤ D s 7 then 1 else 0
  split <;> omega

end Go.Proofs.Qxb6605462a.PF
