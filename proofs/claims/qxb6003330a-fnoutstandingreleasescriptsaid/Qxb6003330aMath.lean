/-
  The plain part for the laws of (Grantee).outstanding: sums, modulo 2^64. No Go in sight.
-/
import Derived.WalkKit
namespace Go.Proofs.Qxb6003330a
open Go.RowKit

/-- The sum of the first k values of f. -/
def Sg (f : Nat → Int) : Nat → Int
  | 0 => 0
  | k + 1 => Sg f k + f k

theorem Sg_congr {f g : Nat → Int} : ∀ {k : Nat}, (∀ i, i < k → f i = g i) → Sg f k = Sg g k
  | 0, _ => rfl
  | k + 1, h => by rw [Sg, Sg, Sg_congr (fun i hi => h i (by omega)), h k (by omega)]

/-- One value is another: the sum turns by the difference. -/
theorem Sg_turn {f g : Nat → Int} {i : Nat} : ∀ {k : Nat}, i < k → (∀ j, j ≠ i → g j = f j) → Sg g k = Sg f k - f i + g i
  | 0, h, _ => by omega
  | k + 1, h, he => by
    rw [Sg, Sg]
    by_cases e : i = k
    · subst e
      rw [Sg_congr (f := g) (g := f) (fun j hj => he j (by omega))]
      omega
    · rw [Sg_turn (k := k) (by omega) he, he k (fun h => e h.symm)]
      omega

/-- The outstanding counts of a row of holdings, four numbers each: the first of each four. -/
def outs (zs : List Int) (i : Nat) : Int := zs.getD (i * 4) 0
def tot (zs : List Int) (n : Nat) : Int := Sg (outs zs) n

theorem getD_set (zs : List Int) (p j : Nat) (x : Int) (hp : p < zs.length) : (zs.set p x).getD j 0 = if j = p then x else zs.getD j 0 := by
  by_cases e : j = p
  · subst e; simp [List.getD_eq_getElem?_getD, hp]
  · rw [if_neg e]; simp [List.getD_eq_getElem?_getD, Ne.symm e]

theorem tot_set {zs : List Int} {n i : Nat} (x : Int) (hi : i < n) (hl : zs.length = 4 * n) : tot (zs.set (i * 4) x) n = tot zs n - outs zs i + x := by
  unfold tot
  rw [Sg_turn (f := outs zs) (i := i) hi (fun j hj => by unfold outs; rw [getD_set _ _ _ _ (by omega), if_neg (by omega)])]
  congr 1
  unfold outs
  rw [getD_set _ _ _ _ (by omega), if_pos rfl]

/-- The other three numbers of a holding do not count. -/
theorem tot_other {zs : List Int} {n p : Nat} (x : Int) (hp : p % 4 ≠ 0) (hpl : p < zs.length) : tot (zs.set p x) n = tot zs n := by
  unfold tot
  exact Sg_congr fun j _ => by unfold outs; rw [getD_set _ _ _ _ hpl, if_neg (by omega)]

theorem wrap64_eq {a b : Int} (h : (a - b) % 18446744073709551616 = 0) : wrap64 a = wrap64 b := by unfold wrap64; omega
theorem wrap64_add (a b : Int) : wrap64 (wrap64 a + b) = wrap64 (a + b) := by unfold wrap64; omega
theorem wrap64_sub (a b : Int) : wrap64 (wrap64 a - b) = wrap64 (a - b) := by unfold wrap64; omega
theorem wrap64_mod (a : Int) : (wrap64 a - a) % 18446744073709551616 = 0 := by unfold wrap64; omega

/-- A release: k out of tranche i, k into its second number. -/
theorem release {zs : List Int} {n i : Nat} (k y : Int) (hi : i < n) (hl : zs.length = 4 * n) :
    wrap64 (tot ((zs.set (i * 4) (wrap64 (outs zs i - k))).set (i * 4 + 1) y) n) = wrap64 (wrap64 (tot zs n) - k) := by
  rw [tot_other _ (by omega) (by simp; omega), tot_set _ hi hl, wrap64_sub]
  apply wrap64_eq
  have := wrap64_mod (outs zs i - k)
  omega

/-- A transfer: k out of tranche i, then k into tranche j (which may be the same). -/
theorem transfer {zs : List Int} {n i j : Nat} (k : Int) (hi : i < n) (hj : j < n) (hl : zs.length = 4 * n) :
    wrap64 (tot ((zs.set (i * 4) (wrap64 (outs zs i - k))).set (j * 4) (wrap64 (outs (zs.set (i * 4) (wrap64 (outs zs i - k))) j + k))) n) = wrap64 (tot zs n) := by
  rw [tot_set _ hj (by simpa using hl), tot_set _ hi hl]
  apply wrap64_eq
  have h1 := wrap64_mod (outs zs i - k)
  have h2 := wrap64_mod (outs (zs.set (i * 4) (wrap64 (outs zs i - k))) j + k)
  omega

/-- The transfer as the walk meets it: to another tranche. -/
theorem move_other {zs : List Int} {n i j : Nat} (k : Int) (hi : i < n) (hj : j < n) (hij : j ≠ i) (hl : zs.length = 4 * n) :
    wrap64 (tot ((zs.set (i * 4) (wrap64 (zs.getD (i * 4) 0 - k))).set (j * 4) (wrap64 (zs.getD (j * 4) 0 + k))) n) = wrap64 (tot zs n) := by
  have h := transfer k hi hj hl
  unfold outs at h
  rw [getD_set _ _ _ _ (by omega), if_neg (by omega)] at h
  exact h

/-- The only tranche: out of it and into it. -/
theorem move_same {zs : List Int} {n : Nat} (k : Int) (hn : 0 < n) (hl : zs.length = 4 * n) :
    wrap64 (tot ((zs.set 0 (wrap64 (zs.getD 0 0 - k))).set 0 (wrap64 (wrap64 (zs.getD 0 0 - k) + k))) n) = wrap64 (tot zs n) := by
  have h := transfer (i := 0) (j := 0) k hn hn hl
  unfold outs at h
  rw [getD_set _ _ _ _ (by omega), if_pos rfl] at h
  exact h

/-! ### Bounds -/
/-- The greatest of the first k numbers, at least 0. -/
def big (xs : List Int) : Nat → Int
  | 0 => 0
  | k + 1 => if xs.getD k 0 > big xs k then xs.getD k 0 else big xs k
/-- Are the first k all 0? -/
def zeros (xs : List Int) : Nat → Bool
  | 0 => true
  | k + 1 => if xs.getD k 0 != 0 then false else zeros xs k

def sumL (xs : List Int) (k : Nat) : Int := Sg (fun i => xs.getD i 0) k

/-- All of the first k lie in [0, 2^46]. -/
def Small (xs : List Int) (k : Nat) : Prop := ∀ i, i < k → 0 ≤ xs.getD i 0 ∧ xs.getD i 0 ≤ 70368744177664

theorem big_bd (xs : List Int) : ∀ k, Small xs k → 0 ≤ big xs k ∧ big xs k ≤ 70368744177664
  | 0, _ => by simp [big]
  | k + 1, h => by
    have h1 := big_bd xs k (fun i hi => h i (by omega))
    have h2 := h k (by omega)
    unfold big
    split <;> omega

theorem sum_lo (xs : List Int) : ∀ k, Small xs k → big xs k ≤ sumL xs k
  | 0, _ => by simp [big, sumL, Sg]
  | k + 1, h => by
    have hs : Small xs k := fun i hi => h i (by omega)
    have h1 := sum_lo xs k hs
    have h2 := h k (by omega)
    have h3 := big_bd xs k hs
    unfold sumL at h1 ⊢
    rw [Sg]
    unfold big
    split <;> omega

theorem big_mono (xs : List Int) (k : Nat) : big xs k ≤ big xs (k + 1) ∧ xs.getD k 0 ≤ big xs (k + 1) := by
  rw [big]; split <;> omega

theorem sum_hi (xs : List Int) : ∀ k, Small xs k → sumL xs k ≤ k * big xs k
  | 0, _ => by simp [big, sumL, Sg]
  | k + 1, h => by
    have hs : Small xs k := fun i hi => h i (by omega)
    have h1 := sum_hi xs k hs
    have h3 := big_mono xs k
    have h4 : (k : Int) * big xs k ≤ (k : Int) * big xs (k + 1) := Int.mul_le_mul_of_nonneg_left h3.1 (by omega)
    unfold sumL at h1 ⊢
    rw [Sg]
    have e : ((k + 1 : Nat) : Int) * big xs (k + 1) = (k : Int) * big xs (k + 1) + big xs (k + 1) := by
      rw [Int.natCast_add, Int.add_mul]; simp
    rw [e]
    omega

theorem sum_zero (xs : List Int) : ∀ k, Small xs k → (sumL xs k == 0) = zeros xs k
  | 0, _ => by simp [sumL, Sg, zeros]
  | k + 1, h => by
    have hs : Small xs k := fun i hi => h i (by omega)
    have h1 := sum_zero xs k hs
    have h2 := h k (by omega)
    have h3 := sum_lo xs k hs
    have h4 := big_bd xs k hs
    unfold sumL at h1 h3 ⊢
    rw [Sg, zeros]
    by_cases e : xs.getD k 0 = 0
    · rw [e] at h2 ⊢
      simpa using h1
    · have e1 : (xs.getD k 0 != 0) = true := by simpa using e
      rw [e1, if_pos rfl]
      have : ¬ (Sg (fun i => xs.getD i 0) k + xs.getD k 0 = 0) := by omega
      simpa using this

end Go.Proofs.Qxb6003330a
