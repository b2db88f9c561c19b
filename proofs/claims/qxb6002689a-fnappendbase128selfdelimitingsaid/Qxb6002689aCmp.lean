/-
  The walks of zzEqualBytes, zzLessBytes, zzHasPrefix, by contracts: of rows that the caller knows.
-/
import Derived.Test.Qxb6002689aRows
import Derived.Test.Qxb6002689aMath
import Derived.Test.Qxb6002689aOwn
import Derived.WalkKit
import Derived.WalkSpells
import Derived.Deep.QuietTactic
import Derived.BigQuiet
import Derived.WalkSmall
namespace Go.Proofs.Qxb6002689a
open Go.RowKit

/-- What is read behind an address: the bytes xs. -/
def Reads (w : World) (a : Option Addr) (xs : List Int) : Prop :=
  xs = [] ∨ ∃ g off, a = some ⟨g, off, none⟩ ∧ ∀ j, j < xs.length → w.cell? ⟨g, off + j, none⟩ = some (.int .u8 (xs.getD j 0))

theorem Reads.later {w w' : World} {a : Option Addr} {xs : List Int} (h : Reads w a xs) (hb : Below w.heap.size w w') : Reads w' a xs := by
  rcases h with h | ⟨g, off, rfl, h⟩
  · exact .inl h
  · exact .inr ⟨g, off, rfl, fun j hj => cell_later hb (h j hj)⟩

set_option maxHeartbeats 1000000 in
set_option maxRecDepth 1000000 in
theorem equal_in (xs : List Int) (hxs : xs.length ≤ 1000000) (w : World) (a b : Option Addr) (ca cb : Nat) (ha : Reads w a xs) (hb : Reads w b xs) :
    Calls Try.prog 14 #[.slice a xs.length ca, .slice b xs.length cb] w fun e w' => e = .returned (.bool true) ∧ Below w.heap.size w w' := by
  go_enter Try.func14, Try.ntmps14
  go_wp2
  go_loopw [5] (fun i wr => ∃ k : Nat, k ≤ xs.length ∧ i = .int .i64 k ∧ Below w.heap.size w wr) (fun i _ => xs.length - (intOf i).toNat)
  case atStart => exact ⟨0, by omega, rfl, Below.refl _ _⟩
  case round =>
    obtain ⟨k, hk, rfl, hbel⟩ := hrel
    by_cases hlt : k < xs.length
    · rcases ha with h | ⟨g, off, rfl, ha⟩
      · subst h; simp at hlt
      rcases hb with h | ⟨g', off', rfl, hb⟩
      · subst h; simp at hlt
      have c1 := cell_later hbel (ha k hlt)
      have c2 := cell_later hbel (hb k hlt)
      obtain ⟨x, hx⟩ : ∃ x, xs.getD k 0 = x := ⟨_, rfl⟩
      rw [hx] at c1 c2
      have hlt' : (k : Int) < (xs.length : Int) := by omega
      clear ha hb hx
      go_wp2
      go_quiet (fail)
      go_wp2
      go_roundw
      case rel => exact ⟨k + 1, by omega, by go_num, below_drewN hbel _⟩
      case measure => simp [intOf]; omega
    · go_wp2
      go_ret
      exact ⟨rfl, hbel⟩

set_option maxHeartbeats 1000000 in
set_option maxRecDepth 1000000 in
theorem prefix_in (xs ys : List Int) (hxs : xs.length + ys.length ≤ 1000000) (w : World) (a b : Option Addr) (n ca cb : Nat) (hn : n = (xs ++ ys).length) (ha : Reads w a (xs ++ ys)) (hb : Reads w b xs) :
    Calls Try.prog 13 #[.slice a n ca, .slice b xs.length cb] w fun e w' => e = .returned (.bool true) ∧ Below w.heap.size w w' := by
  obtain rfl : n = xs.length + ys.length := by simpa using hn
  clear hn
  go_enter Try.func13, Try.ntmps13
  go_wp2
  go_loopw [5] (fun i wr => ∃ k : Nat, k ≤ xs.length ∧ i = .int .i64 k ∧ Below w.heap.size w wr) (fun i _ => xs.length - (intOf i).toNat)
  case atStart => exact ⟨0, by omega, rfl, Below.refl _ _⟩
  case round =>
    obtain ⟨k, hk, rfl, hbel⟩ := hrel
    by_cases hlt : k < xs.length
    · rcases ha with h | ⟨g, off, rfl, ha⟩
      · simp at h; rw [h.1] at hlt; simp at hlt
      rcases hb with h | ⟨g', off', rfl, hb⟩
      · rw [h] at hlt; simp at hlt
      have c1 := cell_later hbel (ha k (by simp; omega))
      have c2 := cell_later hbel (hb k hlt)
      rw [show (xs ++ ys).getD k 0 = xs.getD k 0 by simp [List.getElem?_append_left hlt]] at c1
      obtain ⟨x, hx⟩ : ∃ x, xs.getD k 0 = x := ⟨_, rfl⟩
      rw [hx] at c1 c2
      have hlt' : (k : Int) < (xs.length : Int) := by omega
      have hlt2 : (k : Int) < (xs.length : Int) + (ys.length : Int) := by omega
      clear ha hb hx
      go_wp2
      go_quiet (fail)
      go_wp2
      go_roundw
      case rel => exact ⟨k + 1, by omega, by go_num, below_drewN hbel _⟩
      case measure => simp [intOf]; omega
    · go_wp2
      go_ret
      exact ⟨rfl, hbel⟩

set_option maxHeartbeats 1000000 in
set_option maxRecDepth 1000000 in
theorem less_in (xs ys : List Int) (hxs : xs.length ≤ 1000000) (hys : ys.length ≤ 1000000) (p : Nat) (hp : Lesser xs ys p) (w : World) (a b : Option Addr) (ca cb : Nat) (ha : Reads w a xs) (hb : Reads w b ys) :
    Calls Try.prog 15 #[.slice a xs.length ca, .slice b ys.length cb] w fun e w' => e = .returned (.bool true) ∧ Below w.heap.size w w' := by
  obtain ⟨hp1, hp2, hp3, hp4⟩ := hp
  rcases ha with h | ⟨g, off, rfl, ha⟩
  · subst h; simp at hp1
  rcases hb with h | ⟨g', off', rfl, hb⟩
  · subst h; simp at hp2
  go_enter Try.func15, Try.ntmps15
  go_wp2
  go_loopw [4, 5] (fun _ i wr => ∃ k : Nat, k ≤ p ∧ i = .int .i64 k ∧ Below w.heap.size w wr) (fun _ i _ => xs.length - (intOf i).toNat)
  case atStart => exact ⟨0, by omega, rfl, Below.refl _ _⟩
  case round =>
    obtain ⟨k, hk, rfl, hbel⟩ := hrel
    have c1 := cell_later hbel (ha k (by omega))
    have c2 := cell_later hbel (hb k (by omega))
    have hlt' : (k : Int) < (xs.length : Int) := by omega
    have hlt2 : (k : Int) < (ys.length : Int) := by omega
    by_cases hlt : k < p
    · rw [← hp4 k hlt] at c2
      obtain ⟨x, hx⟩ : ∃ x, xs.getD k 0 = x := ⟨_, rfl⟩
      rw [hx] at c1 c2
      clear ha hb hx hp4 hp3
      go_wp2
      go_quiet (fail)
      go_wp2
      go_roundw
      case rel => exact ⟨k + 1, by omega, by go_num, below_drewN hbel _⟩
      case measure => simp [intOf]; omega
    · obtain rfl : k = p := by omega
      obtain ⟨x, hx⟩ : ∃ x, xs.getD k 0 = x := ⟨_, rfl⟩
      obtain ⟨y, hy⟩ : ∃ y, ys.getD k 0 = y := ⟨_, rfl⟩
      rw [hx] at c1 hp3
      rw [hy] at c2 hp3
      clear ha hb hx hy hp4
      go_wp2
      go_quiet (fail)
      go_wp2
      go_quiet (fail)
      go_wp2
      go_ret
      exact ⟨rfl, below_drewN (below_drewN hbel _) _⟩

/-- A row of the call's own, read: its value and its bytes. -/
theorem reads_own {w : World} {base n : Nat} {v : Value} {xs : List Int} (h : w.ownsRow base 5 1 v n (xs.map (Value.int .u8))) :
    ∃ a c, v = .slice a xs.length c ∧ Reads w a xs := by
  have hl : n = xs.length := by have := h.1; simpa using this.symm
  subst hl
  rcases h.2 with ⟨rfl, h0⟩ | ⟨g, cap, cur, rfl, _⟩
  · exact ⟨none, 0, by rw [h0], .inl (List.eq_nil_of_length_eq_zero h0)⟩
  · refine ⟨_, cap, rfl, .inr ⟨g, 0, rfl, fun j hj => ?_⟩⟩
    rw [Nat.zero_add, h.cellAt j (by omega), List.getElem?_map, List.getElem?_eq_getElem hj]
    simp [hj]

end Go.Proofs.Qxb6002689a
