/-
  The walks of zzReadLength and zzReadSubid, by contracts.
-/
import Derived.Test.Qxb6002689aRows
import Derived.Test.Qxb6002689aMath
import Derived.Test.Qxb6002689aOwn
import Derived.WalkKit
import Derived.WalkSpells
namespace Go.Proofs.Qxb6002689a
open Go.RowKit

set_option maxRecDepth 1000000 in
theorem readLength_small (n : Nat) (hn : n < 128) (w : World) (g cap : Nat) (hc : w.cell? ⟨g, 0, none⟩ = some (.int .u8 n)) :
    Calls Try.prog 10 #[.slice (some ⟨g, 0, none⟩) 1 cap] w fun e w' => e = .returned (.tuple #[.int .u64 n, .int .i64 1, .bool true]) ∧ w' = w := by
  go_enter Try.func10, Try.ntmps10
  go_wp2
  go_ret3
  exact ⟨rfl, rfl⟩

set_option maxHeartbeats 1000000 in
set_option maxRecDepth 1000000 in
theorem readLength_big (n k : Nat) (hn : 128 ≤ n) (hn2 : n < 9223372036854775808) (hk : Fits 256 n k) (w : World) (g cap : Nat)
    (hc0 : w.cell? ⟨g, 0, none⟩ = some (.int .u8 (128 + (k : Int)))) (hcs : ∀ j, j < k → w.cell? ⟨g, 1 + j, none⟩ = some (.int .u8 (dL n (k - 1 - j)))) :
    Calls Try.prog 10 #[.slice (some ⟨g, 0, none⟩) (k + 1) cap] w fun e w' => e = .returned (.tuple #[.int .u64 n, .int .i64 (1 + (k : Int)), .bool true]) ∧ w' = w := by
  have hk8 := hk.le256 hn2
  have hk1 := hk.1
  have hand : bits .and .u8 (128 + (k : Int)) 127 = (k : Int) := by rw [and127 _ (by omega) (by omega)]; omega
  have hc1 : w.cell? ⟨g, 1, none⟩ = some (.int .u8 (dL n (k - 1))) := by simpa using hcs 0 (by omega)
  have hdz : (dL n (k - 1) == 0) = false := by have := top256 (by omega) hk; simp; omega
  go_enter Try.func10, Try.ntmps10
  go_wp2
  go_loop [7, 8] (fun v i => ∃ j q : Nat, j ≤ k ∧ q ≤ n ∧ v = .int .u64 q ∧ i = .int .i64 ((1 + j : Nat) : Int) ∧ Hid (q = n / 256 ^ (k - j)))
    (fun _ i => 1 + k - (intOf i).toNat)
  case atStart => exact ⟨0, 0, by omega, by omega, rfl, rfl, by unfold Hid; rw [Nat.sub_zero, hk.2.1]⟩
  case round =>
    obtain ⟨j, q, hj, hqn, rfl, rfl, hq⟩ := hrel
    by_cases hlt : j < k
    · have hcj := hcs j hlt
      have hq1 : (n / 256 ^ (k - 1 - j)) = q * 256 + n / 256 ^ (k - 1 - j) % 256 := by
        have := next256 n (k - 1 - j)
        rw [show k - 1 - j + 1 = k - j by omega, ← hq.out] at this
        exact this.symm
      have hle : n / 256 ^ (k - 1 - j) ≤ n := Nat.div_le_self _ _
      obtain ⟨d, hd⟩ : ∃ d : Nat, dL n (k - 1 - j) = (d : Int) := ⟨n / 256 ^ (k - 1 - j) % 256, rfl⟩
      have hdd : n / 256 ^ (k - 1 - j) % 256 = d := by have h := hd; unfold dL at h; omega
      rw [hd] at hcj
      rw [hdd] at hq1
      have hd2 : d < 256 := by omega
      have hqb : q * 256 + 255 < 18446744073709551616 := by omega
      have HQ : Hid (n / 256 ^ (k - 1 - j) = q * 256 + d ∧ q * 256 + d ≤ n) := ⟨hq1, by omega⟩
      have hor := or_low8 (q : Int) (d : Int) (by omega) (by omega) (by omega) (by omega)
      clear hq1 hle hd hdd hcs hc1 hand
      go_wp2
      go_round
      case rel => exact ⟨j + 1, q * 256 + d, by omega, HQ.out.2, by go_num, by go_num, by unfold Hid; rw [← HQ.out.1]; congr 2; omega⟩
      case measure => simp [intOf]; omega
    · obtain rfl : j = k := by omega
      obtain rfl : q = n := by have := hq.out; simpa using this
      clear hq
      go_wp2
      go_ret3
      exact ⟨rfl, rfl⟩

/-- zzReadLength reads back what appendLength writes. -/
theorem readLength_any (n k : Nat) (hn2 : n < 9223372036854775808) (hk : Fits 256 n k) (w : World) (base : Nat) (v : Value)
    (hown : w.ownsRow base 5 1 v (encL n k).length ((encL n k).map (Value.int .u8))) :
    Calls Try.prog 10 #[v] w fun e w' => e = .returned (.tuple #[.int .u64 n, .int .i64 ((encL n k).length : Int), .bool true]) ∧ w' = w := by
  have hpos : 0 < (encL n k).length := by rw [encL_len]; split <;> omega
  obtain ⟨g, cap, rfl, -⟩ := ownsRow_some hown hpos
  have hc : ∀ j, j < (encL n k).length → w.cell? ⟨g, j, none⟩ = ((encL n k).map (Value.int .u8))[j]? := fun j hj => hown.cellAt j (by omega)
  by_cases hn : n < 128
  · have el : (encL n k).length = 1 := by rw [encL_len, if_pos hn]
    have h0 := hc 0 (by omega)
    rw [el]
    simp only [encL, hn, if_true] at h0
    exact readLength_small n hn w g cap (by simpa using h0)
  · have el : (encL n k).length = k + 1 := by rw [encL_len, if_neg hn]
    have e : ((k + 1 : Nat) : Int) = 1 + (k : Int) := by omega
    rw [el] at hc
    rw [el, e]
    simp only [encL, hn, if_false] at hc
    refine readLength_big n k (by omega) hn2 hk w g cap (by simpa using hc 0 (by omega)) fun j hj => ?_
    have := hc (1 + j) (by omega)
    rw [this, Nat.add_comm]
    simp [row_get _ _ _ hj]

set_option maxHeartbeats 1000000 in
set_option maxRecDepth 1000000 in
/-- zzReadSubid, begun at the head of a subidentifier, reads it, whatever lies behind. -/
theorem readSubid_in (n k : Nat) (hn2 : n < 9223372036854775808) (hk : Fits 128 n k) (w : World) (g len cap i : Nat) (hi : i + k ≤ len) (hlen : len ≤ 1000000)
    (hcs : ∀ j, j < k → w.cell? ⟨g, i + j, none⟩ = some (.int .u8 (dS n (k - 1 - j)))) :
    Calls Try.prog 17 #[.slice (some ⟨g, 0, none⟩) len cap, .int .i64 i] w fun e w' => e = .returned (.tuple #[.int .u64 n, .int .i64 ((i + k : Nat) : Int), .bool true]) ∧ w' = w := by
  have hk8 := hk.le128 hn2
  have hk1 := hk.1
  go_enter Try.func17, Try.ntmps17
  go_wp2
  go_loop [1, 4, 5, 6, 8, 9] (fun t _ _ _ v _ => ∃ j q : Nat, j < k ∧ q ≤ n ∧ v = .int .u64 q ∧ t = .int .i64 ((i + j : Nat) : Int) ∧ Hid (q = n / 128 ^ (k - j)))
    (fun t _ _ _ _ _ => i + k - (intOf t).toNat)
  case atStart => exact ⟨0, 0, by omega, by omega, rfl, rfl, by unfold Hid; rw [Nat.sub_zero, hk.2.1]⟩
  case round =>
    obtain ⟨j, q, hj, hqn, rfl, rfl, hq⟩ := hrel
    have hcj := hcs j hj
    have hq1 : (n / 128 ^ (k - 1 - j)) = q * 128 + n / 128 ^ (k - 1 - j) % 128 := by
      have := next128 n (k - 1 - j)
      rw [show k - 1 - j + 1 = k - j by omega, ← hq.out] at this
      exact this.symm
    have hle : n / 128 ^ (k - 1 - j) ≤ n := Nat.div_le_self _ _
    have htop : j = 0 → 1 < k → 128 < dS n (k - 1 - j) := by intro h0 h1; subst h0; exact top128 hk h1
    obtain ⟨d, hd⟩ : ∃ d : Nat, n / 128 ^ (k - 1 - j) % 128 = d := ⟨_, rfl⟩
    have hd2 : d < 128 := by omega
    rw [hd] at hq1
    have hqb : q * 128 + 127 < 18446744073709551616 := by omega
    have hor := or_low7 (q : Int) (d : Int) (by omega) (by omega) (by omega) (by omega)
    have HQ : Hid (n / 128 ^ (k - 1 - j) = q * 128 + d ∧ q * 128 + d ≤ n) := ⟨hq1, by omega⟩
    by_cases hlast : k = j + 1
    · subst hlast
      have hdS : dS n (j + 1 - 1 - j) = (d : Int) := by
        unfold dS; rw [if_pos (by omega)]; simp at hd; omega
      rw [hdS] at hcj
      have hqn' : q * 128 + d = n := by have := HQ.out.1; simp at this; omega
      have ha1 : bits .and .u8 (d : Int) 127 = (d : Int) := by rw [and127 _ (by omega) (by omega)]; omega
      have ha2 : bits .and .u8 (d : Int) 128 = 0 := by rw [and128 _ (by omega) (by omega)]; omega
      have hnz : ((d : Int) == 128) = false := by simp; omega
      have HN : Hid (q * 128 + d = n) := hqn'
      clear hq1 hle hd hdS htop hcs hqn' hq HQ
      by_cases hj0 : j = 0
      · subst hj0
        simp only [Nat.add_zero] at hcj
        go_wp2
        go_ret3
        exact ⟨by rw [← HN.out]; rfl, rfl⟩
      · go_wp2
        go_ret3
        exact ⟨by rw [← HN.out]; rfl, rfl⟩
    · have hdS : dS n (k - 1 - j) = 128 + (d : Int) := by
        unfold dS; rw [if_neg (by omega), hd]; omega
      rw [hdS] at hcj htop
      have ha1 : bits .and .u8 (128 + (d : Int)) 127 = (d : Int) := by rw [and127 _ (by omega) (by omega)]; omega
      have ha2 : bits .and .u8 (128 + (d : Int)) 128 = 128 := by rw [and128 _ (by omega) (by omega)]; omega
      clear hq1 hle hd hdS hcs hq
      by_cases hj0 : j = 0
      · subst hj0
        have hnz : (128 + (d : Int) == 128) = false := by have := htop rfl (by omega); simp; omega
        clear htop
        simp only [Nat.add_zero] at hcj
        go_wp2
        go_round
        case rel => exact ⟨0 + 1, q * 128 + d, by omega, HQ.out.2, by go_num, by go_num, by unfold Hid; rw [← HQ.out.1]; congr 2⟩
        case measure => simp [intOf]; omega
      · clear htop
        have hne : ((i : Int) + (j : Int) == (i : Int)) = false := by simp; omega
        go_wp2
        go_round
        case rel => exact ⟨j + 1, q * 128 + d, by omega, HQ.out.2, by go_num, by go_num, by unfold Hid; rw [← HQ.out.1]; congr 2; omega⟩
        case measure => simp [intOf]; omega

/-- zzReadSubid, begun behind 'pre', reads the subidentifier n and stops right behind it. -/
theorem readSubid_any (n k : Nat) (hn2 : n < 9223372036854775808) (hk : Fits 128 n k) (w : World) (base : Nat) (v : Value) (i : Int) (pre post : List Int) (hi : i = pre.length)
    (hlen : (pre ++ encS n k ++ post).length ≤ 1000000) (hown : w.ownsRow base 5 1 v (pre ++ encS n k ++ post).length ((pre ++ encS n k ++ post).map (Value.int .u8))) :
    Calls Try.prog 17 #[v, .int .i64 i] w fun e w' => e = .returned (.tuple #[.int .u64 n, .int .i64 ((pre ++ encS n k).length : Int), .bool true]) ∧ w' = w := by
  subst hi
  have hk1 := hk.1
  have el : (pre ++ encS n k ++ post).length = pre.length + k + post.length := by simp [encS_len, Nat.add_assoc]
  have el2 : (pre ++ encS n k).length = pre.length + k := by simp [encS_len]
  obtain ⟨g, cap, rfl, -⟩ := ownsRow_some hown (by omega)
  have hc : ∀ j, j < (pre ++ encS n k ++ post).length → w.cell? ⟨g, j, none⟩ = ((pre ++ encS n k ++ post).map (Value.int .u8))[j]? := fun j hj => hown.cellAt j (by omega)
  rw [el2]
  refine readSubid_in n k hn2 hk w g _ cap pre.length (by omega) hlen fun j hj => ?_
  rw [hc _ (by omega), List.getElem?_map, List.append_assoc, List.getElem?_append_right (by omega), List.getElem?_append_left (by rw [encS_len]; omega)]
  unfold encS
  rw [show pre.length + j - pre.length = j by omega, row_get _ _ _ hj]
  rfl

end Go.Proofs.Qxb6002689a
