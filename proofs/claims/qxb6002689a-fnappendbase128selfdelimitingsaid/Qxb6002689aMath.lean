/-
  The plain part for the laws of appendLength and appendBase128: digits, their lists, their order. No Go in sight.
-/
import Derived.Laws.BitsAllLaws
namespace Go.Proofs.Qxb6002689a

/-- The list [f (k-1), .., f 0]. -/
def row (f : Nat → Int) : Nat → List Int
  | 0 => []
  | k + 1 => f k :: row f k

theorem row_length (f : Nat → Int) : ∀ k, (row f k).length = k
  | 0 => rfl
  | k + 1 => by simp [row, row_length f k]

theorem row_get (f : Nat → Int) : ∀ k j, j < k → (row f k)[j]? = some (f (k - 1 - j))
  | 0, _, h => by omega
  | k + 1, 0, _ => by simp [row]
  | k + 1, j + 1, h => by
    simp only [row, List.getElem?_cons_succ]
    rw [row_get f k j (by omega)]
    congr 2
    omega

/-- The digit of weight 256^i. -/
def dL (n : Nat) (i : Nat) : Int := ((n / 256 ^ i % 256 : Nat) : Int)
/-- The octet of weight 128^i of a subidentifier: the high bit on all but the last. -/
def dS (n : Nat) (i : Nat) : Int := if i = 0 then ((n % 128 : Nat) : Int) else ((128 + n / 128 ^ i % 128 : Nat) : Int)

theorem dL_bd (n i : Nat) : 0 ≤ dL n i ∧ dL n i < 256 := by unfold dL; omega
theorem dS_bd (n i : Nat) : 0 ≤ dS n i ∧ dS n i < 256 := by unfold dS; split <;> omega

theorem row_all {p : Int → Prop} {f : Nat → Int} (h : ∀ i, p (f i)) : ∀ k, ∀ x ∈ row f k, p x
  | 0, _, hx => by simp [row] at hx
  | k + 1, x, hx => by
    simp only [row, List.mem_cons] at hx
    rcases hx with rfl | hx
    · exact h k
    · exact row_all h k x hx

theorem div_pow_succ (n b k : Nat) : n / b ^ (k + 1) = n / b ^ k / b := by rw [Nat.pow_succ, Nat.div_div_eq_div_mul]

/-- That k digits of base b are just enough for n. -/
def Fits (b n k : Nat) : Prop := 1 ≤ k ∧ n / b ^ k = 0 ∧ (1 < k → 0 < n / b ^ (k - 1))

theorem div_le_pow (n b i j : Nat) (h : i ≤ j) : n / b ^ j = n / b ^ i / b ^ (j - i) := by
  rw [Nat.div_div_eq_div_mul, ← Nat.pow_add]; congr 2; omega

theorem div_zero_up {n b i j : Nat} (h : n / b ^ i = 0) (hij : i ≤ j) : n / b ^ j = 0 := by
  rw [div_le_pow n b i j hij, h, Nat.zero_div]

theorem lt256 {n k : Nat} (hn : n < 9223372036854775808) (h : 0 < n / 256 ^ k) : k ≤ 7 := by
  rcases Nat.lt_or_ge 7 k with h8 | h8
  · exfalso
    have : n / 256 ^ 8 = 0 := Nat.div_eq_of_lt (by omega)
    rw [div_zero_up this h8] at h
    omega
  · exact h8
theorem lt128 {n k : Nat} (hn : n < 9223372036854775808) (h : 0 < n / 128 ^ k) : k ≤ 8 := by
  rcases Nat.lt_or_ge 8 k with h8 | h8
  · exfalso
    have : n / 128 ^ 9 = 0 := Nat.div_eq_of_lt (by omega)
    rw [div_zero_up this h8] at h
    omega
  · exact h8

theorem Fits.le256 {n k : Nat} (h : Fits 256 n k) (hn : n < 9223372036854775808) : k ≤ 8 := by
  rcases Nat.lt_or_ge 1 k with h1 | h1
  · have := lt256 hn (h.2.2 h1); omega
  · omega
theorem Fits.le128 {n k : Nat} (h : Fits 128 n k) (hn : n < 9223372036854775808) : k ≤ 9 := by
  rcases Nat.lt_or_ge 1 k with h1 | h1
  · have := lt128 hn (h.2.2 h1); omega
  · omega

/-- A larger number has at least as many digits. -/
theorem Fits.mono {b n m k l : Nat} (hn : Fits b n k) (hm : Fits b m l) (h : n ≤ m) : k ≤ l := by
  rcases Nat.lt_or_ge l k with hlk | hlk
  · exfalso
    have h1 := hm.1
    have h2 := hn.2.2 (by omega)
    have h3 : m / b ^ (k - 1) = 0 := div_zero_up hm.2.1 (by omega)
    have h4 : n / b ^ (k - 1) ≤ m / b ^ (k - 1) := Nat.div_le_div_right h
    omega
  · exact hlk

theorem Fits.uniq {b n k l : Nat} (hn : Fits b n k) (hm : Fits b n l) : k = l :=
  Nat.le_antisymm (hn.mono hm (Nat.le_refl _)) (hm.mono hn (Nat.le_refl _))

/-- Where two numbers part: the greatest weight at which their quotients differ. -/
theorem parts (b n m : Nat) (h : n < m) : ∀ k, n / b ^ k = m / b ^ k → ∃ i, i < k ∧ n / b ^ (i + 1) = m / b ^ (i + 1) ∧ n / b ^ i < m / b ^ i
  | 0, e => by simp at e; omega
  | k + 1, e => by
    by_cases hk : n / b ^ k = m / b ^ k
    · obtain ⟨i, hi, h1, h2⟩ := parts b n m h k hk
      exact ⟨i, by omega, h1, h2⟩
    · have : n / b ^ k ≤ m / b ^ k := Nat.div_le_div_right (Nat.le_of_lt h)
      exact ⟨k, by omega, e, by omega⟩

theorem above {b n m i j : Nat} (h : n / b ^ (i + 1) = m / b ^ (i + 1)) (hij : i < j) : n / b ^ j = m / b ^ j := by
  rw [div_le_pow n b (i + 1) j hij, div_le_pow m b (i + 1) j hij, h]

theorem mod_lt_of {b x y : Nat} (hq : x / b = y / b) (h : x < y) : x % b < y % b := by
  have h1 := Nat.div_add_mod x b
  have h2 := Nat.div_add_mod y b
  rw [hq] at h1
  omega

/-- Two rows of the same length: at place p (from the left) the first is smaller, ahead of it they agree. -/
def Lesser (xs ys : List Int) (p : Nat) : Prop := p < xs.length ∧ p < ys.length ∧ xs.getD p 0 < ys.getD p 0 ∧ ∀ j, j < p → xs.getD j 0 = ys.getD j 0

theorem row_getD (f : Nat → Int) (k j : Nat) (h : j < k) : (row f k).getD j 0 = f (k - 1 - j) := by
  rw [List.getD_eq_getElem?_getD, row_get f k j h]; rfl

theorem lesser_row {f g : Nat → Int} {k i : Nat} (hi : i < k) (hlt : f i < g i) (heq : ∀ j, i < j → f j = g j) : Lesser (row f k) (row g k) (k - 1 - i) := by
  refine ⟨by rw [row_length]; omega, by rw [row_length]; omega, ?_, ?_⟩
  · rw [row_getD _ _ _ (by omega), row_getD _ _ _ (by omega)]
    have : k - 1 - (k - 1 - i) = i := by omega
    rw [this]; exact hlt
  · intro j hj
    rw [row_getD _ _ _ (by omega), row_getD _ _ _ (by omega)]
    exact heq _ (by omega)

theorem lesser_cons {xs ys : List Int} {p : Nat} (x : Int) (h : Lesser xs ys p) : Lesser (x :: xs) (x :: ys) (p + 1) := by
  obtain ⟨h1, h2, h3, h4⟩ := h
  refine ⟨by simp; omega, by simp; omega, by simpa using h3, ?_⟩
  intro j hj
  match j with
  | 0 => rfl
  | j + 1 => simpa using h4 j (by omega)

theorem lesser_L {n m k : Nat} (hn : Fits 256 n k) (hm : Fits 256 m k) (h : n < m) : ∃ p, Lesser (row (dL n) k) (row (dL m) k) p := by
  obtain ⟨i, hi, h1, h2⟩ := parts 256 n m h k (by rw [hn.2.1, hm.2.1])
  refine ⟨_, lesser_row hi ?_ ?_⟩
  · have := mod_lt_of (b := 256) (by rw [← div_pow_succ, ← div_pow_succ]; exact h1) h2
    unfold dL; omega
  · intro j hj
    unfold dL; rw [above h1 hj]

theorem lesser_S {n m k : Nat} (hn : Fits 128 n k) (hm : Fits 128 m k) (h : n < m) : ∃ p, Lesser (row (dS n) k) (row (dS m) k) p := by
  obtain ⟨i, hi, h1, h2⟩ := parts 128 n m h k (by rw [hn.2.1, hm.2.1])
  refine ⟨_, lesser_row hi ?_ ?_⟩
  · have := mod_lt_of (b := 128) (by rw [← div_pow_succ, ← div_pow_succ]; exact h1) h2
    unfold dS
    split
    · rename_i h0; subst h0; simp at this; omega
    · omega
  · intro j hj
    unfold dS; rw [if_neg (by omega), if_neg (by omega), above h1 hj]

/-- What appendLength puts behind: k is the number of octets of n (used where n is 128 or more). -/
def encL (n k : Nat) : List Int := if n < 128 then [(n : Int)] else (128 + (k : Int)) :: row (dL n) k
def encS (n k : Nat) : List Int := row (dS n) k

theorem encL_len (n k : Nat) : (encL n k).length = if n < 128 then 1 else k + 1 := by
  unfold encL; split <;> simp [row_length]
theorem encS_len (n k : Nat) : (encS n k).length = k := row_length _ _

theorem encL_bd {n k : Nat} (hk : k ≤ 8) : ∀ x ∈ encL n k, 0 ≤ x ∧ x < 256 := by
  intro x hx
  unfold encL at hx
  split at hx
  · simp at hx; omega
  · simp only [List.mem_cons] at hx
    rcases hx with rfl | hx
    · omega
    · exact row_all (p := fun x => 0 ≤ x ∧ x < 256) (dL_bd n) k x hx

theorem encL_order {n m k l : Nat} (hn : Fits 256 n k) (hm : Fits 256 m l) (h : n < m) :
    (encL n k).length < (encL m l).length ∨ ((encL n k).length = (encL m l).length ∧ ∃ p, Lesser (encL n k) (encL m l) p) := by
  have hkl := hn.mono hm (by omega)
  have h1 := hn.1
  have h2 := hm.1
  rw [encL_len, encL_len]
  by_cases h3 : n < 128
  · by_cases h4 : m < 128
    · rw [if_pos h3, if_pos h4]
      refine .inr ⟨rfl, 0, ?_⟩
      simp only [encL, h3, h4, if_true]
      exact ⟨by simp, by simp, by simp; omega, by intro j hj; omega⟩
    · rw [if_pos h3, if_neg h4]; left; omega
  · have h4 : ¬ m < 128 := by omega
    rw [if_neg h3, if_neg h4]
    by_cases e : k = l
    · subst e
      obtain ⟨p, hp⟩ := lesser_L hn hm h
      refine .inr ⟨rfl, p + 1, ?_⟩
      simp only [encL, h3, h4, if_false]
      exact lesser_cons _ hp
    · left; omega

theorem encS_order {n m k l : Nat} (hn : Fits 128 n k) (hm : Fits 128 m l) (h : n < m) :
    (encS n k).length < (encS m l).length ∨ ((encS n k).length = (encS m l).length ∧ ∃ p, Lesser (encS n k) (encS m l) p) := by
  have hkl := hn.mono hm (by omega)
  rw [encS_len, encS_len]
  by_cases e : k = l
  · subst e
    exact .inr ⟨rfl, lesser_S hn hm h⟩
  · left; omega

/-! ### What the bits say -/
theorem or128 (x : Int) (h0 : 0 ≤ x) (h : x < 256) : bits .or .u8 128 x = 128 + x % 128 := by
  obtain ⟨a, rfl⟩ : ∃ a : Nat, x = a := ⟨x.toNat, by omega⟩
  have this : bits .or .u8 128 (a : Int) = _ := u8_or_nat 128 a (by omega) (by omega)
  have e : (128 ||| a : Nat) = 128 + a % 128 := by
    have ha : a = 128 * (a / 128) + a % 128 := by omega
    have h1 : a / 128 = 0 ∨ a / 128 = 1 := by omega
    have hj := nat_join 7 128 (a % 128) (by decide) (by omega)
    rcases h1 with h1 | h1
    · rw [show a % 128 = a by omega] at hj; omega
    · have h2 : a = 128 ||| (a % 128) := by omega
      rw [h2, ← Nat.or_assoc]
      simp only [Nat.or_self]
      omega
  rw [this, e]; omega

theorem and127 (x : Int) (h0 : 0 ≤ x) (h : x < 256) : bits .and .u8 x 127 = x % 128 := by
  obtain ⟨a, rfl⟩ : ∃ a : Nat, x = a := ⟨x.toNat, by omega⟩
  have this : bits .and .u8 (a : Int) 127 = _ := u8_and_nat a 127 (by omega) (by omega)
  rw [this, nat_mask7]; omega

theorem and128 (x : Int) (h0 : 0 ≤ x) (h : x < 256) : bits .and .u8 x 128 = x / 128 * 128 := by
  obtain ⟨a, rfl⟩ : ∃ a : Nat, x = a := ⟨x.toNat, by omega⟩
  have this : bits .and .u8 (a : Int) 128 = _ := u8_and_nat a 128 (by omega) (by omega)
  have e := nat_bit 7 a
  simp only [Nat.reducePow] at e
  rw [this, e]; omega

theorem or_low8 (v x : Int) (h0 : 0 ≤ v) (h1 : v * 256 + 255 < 18446744073709551616) (hx0 : 0 ≤ x) (hx : x < 256) : bits .or .u64 (v * 256) x = v * 256 + x := by
  obtain ⟨a, rfl⟩ : ∃ a : Nat, v = a := ⟨v.toNat, by omega⟩
  obtain ⟨c, rfl⟩ : ∃ a : Nat, x = a := ⟨x.toNat, by omega⟩
  have := u64_or_nat (a * 256) c (by omega) (by omega)
  have hj := nat_join 8 (a * 256) c (by omega) (by omega)
  rw [show ((a : Int) * 256) = ((a * 256 : Nat) : Int) by omega, this, hj]; omega

theorem or_low7 (v x : Int) (h0 : 0 ≤ v) (h1 : v * 128 + 127 < 18446744073709551616) (hx0 : 0 ≤ x) (hx : x < 128) : bits .or .u64 (v * 128) x = v * 128 + x := by
  obtain ⟨a, rfl⟩ : ∃ a : Nat, v = a := ⟨v.toNat, by omega⟩
  obtain ⟨c, rfl⟩ : ∃ a : Nat, x = a := ⟨x.toNat, by omega⟩
  have := u64_or_nat (a * 128) c (by omega) (by omega)
  have hj := nat_join 7 (a * 128) c (by omega) (by omega)
  rw [show ((a : Int) * 128) = ((a * 128 : Nat) : Int) by omega, this, hj]; omega

theorem shr8 (n j : Nat) : (n : Int) / 2 ^ (8 * j) % 256 = dL n j := by
  have e : (256 : Nat) ^ j = 2 ^ (8 * j) := by rw [Nat.pow_mul]
  unfold dL
  rw [e]
  simp

theorem shr7 (n j : Nat) : (n : Int) / 2 ^ (7 * j) % 128 = ((n / 128 ^ j % 128 : Nat) : Int) := by
  have e : (128 : Nat) ^ j = 2 ^ (7 * j) := by rw [Nat.pow_mul]
  rw [e]
  simp

/-- The first digit is not 0. -/
theorem top256 {n k : Nat} (hn : 0 < n) (h : Fits 256 n k) : 0 < dL n (k - 1) := by
  obtain ⟨h1, h2, h3⟩ := h
  have e := div_pow_succ n 256 (k - 1)
  rw [Nat.sub_add_cancel h1, h2] at e
  have hp : 0 < n / 256 ^ (k - 1) := by
    rcases Nat.lt_or_ge 1 k with h | h
    · exact h3 h
    · obtain rfl : k = 1 := by omega
      simpa using hn
  unfold dL
  omega

theorem top128 {n k : Nat} (h : Fits 128 n k) (hk : 1 < k) : 128 < dS n (k - 1) := by
  obtain ⟨h1, h2, h3⟩ := h
  have e := div_pow_succ n 128 (k - 1)
  rw [Nat.sub_add_cancel h1, h2] at e
  have hp := h3 hk
  unfold dS
  rw [if_neg (by omega)]
  omega

theorem next256 (n i : Nat) : n / 256 ^ (i + 1) * 256 + n / 256 ^ i % 256 = n / 256 ^ i := by
  rw [div_pow_succ]; omega
theorem next128 (n i : Nat) : n / 128 ^ (i + 1) * 128 + n / 128 ^ i % 128 = n / 128 ^ i := by
  rw [div_pow_succ]; omega

end Go.Proofs.Qxb6002689a
