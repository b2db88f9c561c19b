/-
  The walks of appendLength and appendBase128, by contracts.
-/
import Derived.Test.Qxb6002689aRows
import Derived.Test.Qxb6002689aMath
import Derived.Test.Qxb6002689aOwn
import Derived.WalkKit
import Derived.WalkSpells
namespace Go.Proofs.Qxb6002689a
open Go.RowKit

theorem Try.info5 : (Try.prog.info? 5).map (fun i => (i.zero, i.size, i.bytes)) = some (some (.int .u8 0), 1, 1) := by kernel_rfl

theorem cells_one (w : World) (t : TypeId) (u : Value) : ∀ j x, ([u] : List Value)[j]? = some x → (w.alloc (.cells #[u] t)).cell? ((⟨w.heap.size, 0, none⟩ : Addr).add j) = some x :=
  one_new w _ u (by simp)
theorem one_ints (k : IntKind) (n : Int) : ∀ u ∈ [Value.int k n], u.oneCell' = true := by
  intro u hu; simp at hu; subst hu; rfl

set_option maxRecDepth 1000000 in
theorem appendLength_small (n : Nat) (hn : n < 128) (w : World) (base : Nat) (v : Value) (ys : List Int) (hm : ys.length ≤ 100000) (hb : base ≤ w.heap.size)
    (hown : w.ownsRow base 5 1 v ys.length (ys.map (Value.int .u8))) :
    Calls Try.prog 19 #[v, .int .i64 n] w fun e w' => ∃ v', e = .returned v' ∧ w'.ownsRow base 5 1 v' (ys.length + 1) (ys.map (Value.int .u8) ++ [.int .u8 n]) ∧ Onto w w' v v' := by
  obtain ⟨i0, hi, hz0, hz1, hz2⟩ := info_parts Try.info5
  go_enter Try.func19, Try.ntmps19
  go_wp2_with (at_builtin; refine wpList_append_onto _ rfl _ _ 22 rfl base 5 i0 (.int .u8 0) 1 1 Try.underlying22 hi hz0 hz1 hz2 rfl (by decide) _ _ _ rfl (hown.alloc _) ⟨w.heap.size, 0, none⟩ 1 1 [.int .u8 n] rfl rfl (cells_one _ _ _) (one_ints _ _) (by unfold maxLen; omega) (by omega) (by simp; omega) ?_)
  intro v' w1 hown' hon
  go_wp2
  go_ret
  exact ⟨_, rfl, hown', (Onto.alloc _ _ _).trans hon⟩

set_option maxHeartbeats 1000000 in
set_option maxRecDepth 1000000 in
theorem appendLength_big (n : Nat) (hn : 128 ≤ n) (hn2 : n < 9223372036854775808) (w : World) (base : Nat) (v : Value) (ys : List Int) (hm : ys.length ≤ 100000) (hb : base ≤ w.heap.size)
    (hown : w.ownsRow base 5 1 v ys.length (ys.map (Value.int .u8))) :
    Calls Try.prog 19 #[v, .int .i64 n] w fun e w' => ∃ v' k, Fits 256 n k ∧ e = .returned v' ∧ w'.ownsRow base 5 1 v' (ys.length + (k + 1)) ((ys ++ (128 + (k : Int)) :: row (dL n) k).map (Value.int .u8)) ∧ Onto w w' v v' := by
  obtain ⟨i0, hi, hz0, hz1, hz2⟩ := info_parts Try.info5
  go_enter Try.func19, Try.ntmps19
  go_wp2
  go_loop [5, 6] (fun s t => ∃ k q : Nat, k ≤ 8 ∧ q ≤ n ∧ s = .int .i64 k ∧ t = .int .i64 q ∧ Hid (q = n / 256 ^ k) ∧ Hid (1 ≤ k → 0 < n / 256 ^ (k - 1)))
    (fun s _ => 8 - (intOf s).toNat)
  case atStart => exact ⟨0, n, by omega, by omega, rfl, rfl, by simp [Hid], by simp [Hid]⟩
  case round =>
    obtain ⟨k, q, hk, hqn, rfl, rfl, hq, hpos⟩ := hrel
    by_cases h0 : 0 < q
    · have hk7 : k ≤ 7 := lt256 hn2 (by have := hq.out; omega)
      go_wp2
      go_round
      case rel => exact ⟨k + 1, q / 256, by omega, by omega, by go_num, by go_num, by have := hq.out; unfold Hid; rw [div_pow_succ, ← this], by have h := hq.out; unfold Hid; intro _; rw [Nat.add_sub_cancel, ← h]; exact h0⟩
      case measure => simp [intOf]; omega
    · have hfit : Fits 256 n k := by
        have h1 := hq.out
        have h2 := hpos.out
        have h3 : n / 256 ^ k = 0 := by omega
        refine ⟨?_, h3, fun _ => h2 (by omega)⟩
        rcases Nat.eq_zero_or_pos k with rfl | h
        · simp at h3; omega
        · exact h
      obtain rfl : q = 0 := by omega
      clear hq hpos
      have hk1 := hfit.1
      have hor : bits .or .u8 128 (k : Int) = 128 + (k : Int) := by rw [or128 _ (by omega) (by omega)]; omega
      go_wp2_with (at_builtin; refine wpList_append_onto _ rfl _ _ 22 rfl base 5 i0 (.int .u8 0) 1 1 Try.underlying22 hi hz0 hz1 hz2 rfl (by decide) _ _ _ rfl (hown.alloc _) ⟨w.heap.size, 0, none⟩ 1 1 [.int .u8 (128 + (k : Int))] rfl rfl (cells_one _ _ _) (one_ints _ _) (by unfold maxLen; omega) (by omega) (by simp; omega) ?_)
      intro v1 w1 hown1 hon1
      have hon1' : Onto w w1 v v1 := (Onto.alloc _ _ _).trans hon1
      clear hon1 hor
      go_wp2
      go_loopw [0, 7] (fun u i wr => ∃ j : Nat, ∃ x : Int, ∃ zs : List Int, j ≤ k ∧ x = (j : Int) - 1 ∧ i = .int .i64 x ∧ wr.ownsRow base 5 1 u zs.length (zs.map (Value.int .u8)) ∧ Onto w wr v u ∧ Hid (zs ++ row (dL n) j = ys ++ (128 + (k : Int)) :: row (dL n) k))
        (fun _ i _ => (intOf i + 1).toNat)
      case atStart => exact ⟨k, (k : Int) - 1, ys ++ [128 + (k : Int)], by omega, rfl, rfl, by simpa using hown1, hon1', by simp [Hid]⟩
      case round =>
        obtain ⟨j, x, zs, hj, hx, rfl, hownr, honr, hzs⟩ := hrel
        have hzl : zs.length + j = ys.length + 1 + k := by have := congrArg List.length hzs.out; simp [row_length] at this; omega
        rcases Nat.eq_zero_or_pos j with rfl | hj1
        · obtain rfl : x = -1 := by omega
          clear hx
          go_wp2
          go_ret
          have e : zs = ys ++ (128 + (k : Int)) :: row (dL n) k := by simpa [row] using hzs.out
          have el : zs.length = ys.length + (k + 1) := by omega
          rw [e, ← e, el] at hownr
          exact ⟨_, k, hfit, rfl, by rw [← e]; exact hownr, honr⟩
        · obtain ⟨j', rfl, rfl⟩ : ∃ j' : Nat, j = j' + 1 ∧ x = (j' : Int) := ⟨j - 1, by omega, by omega⟩
          clear hx
          go_wp2_with (at_builtin; refine wpList_append_onto _ rfl _ _ 22 rfl base 5 i0 (.int .u8 0) 1 1 Try.underlying22 hi hz0 hz1 hz2 rfl (by decide) _ _ _ rfl (hownr.alloc _) ⟨wr.heap.size, 0, none⟩ 1 1 [_] rfl rfl (cells_one _ _ _) (one_ints _ _) (by unfold maxLen; omega) (by omega) (by have := honr.1.size; simp; omega) ?_)
          intro v2 w2 hown2 hon2
          have hon2' : Onto w w2 v v2 := honr.trans ((Onto.alloc _ _ _).trans hon2)
          rw [shr8] at hown2
          clear hon2
          go_wp2
          go_roundw
          case rel => exact ⟨j', (j' : Int) - 1, zs ++ [dL n j'], by omega, rfl, by go_num, by simpa using hown2, hon2', by unfold Hid; rw [← hzs.out]; simp [row]⟩
          case measure => simp [intOf]

/-- ZZappendLength: behind the row's bytes it puts the length octets of n. -/
theorem appendLength_any (n : Nat) (hn2 : n < 9223372036854775808) (w : World) (base : Nat) (v : Value) (ys : List Int) (hm : ys.length ≤ 100000) (hb : base ≤ w.heap.size)
    (hown : w.ownsRow base 5 1 v ys.length (ys.map (Value.int .u8))) :
    Calls Try.prog 9 #[v, .int .i64 n] w fun e w' => ∃ v' k, Fits 256 n k ∧ e = .returned v' ∧ w'.ownsRow base 5 1 v' (ys ++ encL n k).length ((ys ++ encL n k).map (Value.int .u8)) ∧ Onto w w' v v' := by
  by_cases hn : n < 128
  · go_enter Try.func9, Try.ntmps9
    go_wp2_with (go_at_call 19; refine (appendLength_small n hn w base v ys hm hb hown).mono ?_; rintro e w' ⟨v', rfl, h1, h2⟩)
    go_ret
    exact ⟨_, 1, ⟨by omega, by omega, by omega⟩, rfl, by simpa [encL, hn] using h1, h2⟩
  · go_enter Try.func9, Try.ntmps9
    go_wp2_with (go_at_call 19; refine (appendLength_big n (by omega) hn2 w base v ys hm hb hown).mono ?_; rintro e w' ⟨v', k, hk, rfl, h1, h2⟩)
    go_ret
    exact ⟨_, k, hk, rfl, by simpa [encL, hn, row_length] using h1, h2⟩

theorem andS (n : Nat) : bits .and .i64 (n : Int) 127 % 256 = dS n 0 := by
  rw [i64_and127]; unfold dS; rw [if_pos rfl]; omega
theorem orS (n j : Nat) (hj : j ≠ 0) : bits .or .u8 128 ((n : Int) / 2 ^ (7 * j) % 256) = dS n j := by
  rw [or128 _ (by omega) (by omega)]; unfold dS; rw [if_neg hj, Int.natCast_add, ← shr7]; omega

set_option maxHeartbeats 1000000 in
set_option maxRecDepth 1000000 in
theorem appendBase128_in (n : Nat) (hn2 : n < 9223372036854775808) (w : World) (base : Nat) (v : Value) (ys : List Int) (hm : ys.length ≤ 100000) (hb : base ≤ w.heap.size)
    (hown : w.ownsRow base 5 1 v ys.length (ys.map (Value.int .u8))) :
    Calls Try.prog 20 #[v, .int .i64 n] w fun e w' => ∃ v' k, Fits 128 n k ∧ e = .returned v' ∧ w'.ownsRow base 5 1 v' (ys.length + k) ((ys ++ row (dS n) k).map (Value.int .u8)) ∧ Onto w w' v v' := by
  obtain ⟨i0, hi, hz0, hz1, hz2⟩ := info_parts Try.info5
  go_enter Try.func20, Try.ntmps20
  go_wp2
  go_loop [5, 6] (fun s t => ∃ k q : Nat, 1 ≤ k ∧ k ≤ 9 ∧ q ≤ n ∧ s = .int .i64 k ∧ t = .int .i64 q ∧ Hid (q = n / 128 ^ k) ∧ Hid (1 < k → 0 < n / 128 ^ (k - 1)))
    (fun s _ => 9 - (intOf s).toNat)
  case atStart => exact ⟨1, n / 128, by omega, by omega, by omega, rfl, by go_num, by simp [Hid], by simp [Hid]⟩
  case round =>
    obtain ⟨k, q, hk1, hk, hqn, rfl, rfl, hq, hpos⟩ := hrel
    by_cases h0 : 0 < q
    · have hk7 : k ≤ 8 := lt128 hn2 (by have := hq.out; omega)
      go_wp2
      go_round
      case rel => exact ⟨k + 1, q / 128, by omega, by omega, by omega, by go_num, by go_num, by have := hq.out; unfold Hid; rw [div_pow_succ, ← this], by have h := hq.out; unfold Hid; intro _; rw [Nat.add_sub_cancel, ← h]; exact h0⟩
      case measure => simp [intOf]; omega
    · have hfit : Fits 128 n k := by
        have h1 := hq.out
        have h2 := hpos.out
        exact ⟨hk1, by omega, h2⟩
      obtain rfl : q = 0 := by omega
      clear hq hpos
      go_wp2
      go_loopw [0, 7] (fun u i wr => ∃ j : Nat, ∃ zs : List Int, j + 1 ≤ k ∧ i = .int .i64 j ∧ wr.ownsRow base 5 1 u zs.length (zs.map (Value.int .u8)) ∧ Onto w wr v u ∧ Hid (zs ++ row (dS n) (j + 1) = ys ++ row (dS n) k))
        (fun _ i _ => (intOf i).toNat)
      case atStart => exact ⟨k - 1, ys, by omega, by go_num, hown, Onto.refl _ _, by unfold Hid; rw [Nat.sub_add_cancel hk1]⟩
      case round =>
        obtain ⟨j, zs, hj, rfl, hownr, honr, hzs⟩ := hrel
        have hzl : zs.length + (j + 1) = ys.length + k := by have := congrArg List.length hzs.out; simp [row_length] at this; omega
        rcases Nat.eq_zero_or_pos j with rfl | hj1
        · go_wp2_with (at_builtin; refine wpList_append_onto _ rfl _ _ 22 rfl base 5 i0 (.int .u8 0) 1 1 Try.underlying22 hi hz0 hz1 hz2 rfl (by decide) _ _ _ rfl (hownr.alloc _) ⟨wr.heap.size, 0, none⟩ 1 1 [_] rfl rfl (cells_one _ _ _) (one_ints _ _) (by unfold maxLen; omega) (by omega) (by have := honr.1.size; simp; omega) ?_)
          intro v2 w2 hown2 hon2
          have hon2' : Onto w w2 v v2 := honr.trans ((Onto.alloc _ _ _).trans hon2)
          rw [andS] at hown2
          clear hon2
          go_wp2
          go_ret
          exact ⟨_, k, hfit, rfl, by rw [← hzs.out]; simpa [row] using hown2, hon2'⟩
        · go_wp2_with (at_builtin; refine wpList_append_onto _ rfl _ _ 22 rfl base 5 i0 (.int .u8 0) 1 1 Try.underlying22 hi hz0 hz1 hz2 rfl (by decide) _ _ _ rfl (hownr.alloc _) ⟨wr.heap.size, 0, none⟩ 1 1 [_] rfl rfl (cells_one _ _ _) (one_ints _ _) (by unfold maxLen; omega) (by omega) (by have := honr.1.size; simp; omega) ?_)
          intro v2 w2 hown2 hon2
          have hon2' : Onto w w2 v v2 := honr.trans ((Onto.alloc _ _ _).trans hon2)
          rw [orS n j (by omega)] at hown2
          clear hon2
          go_wp2
          go_roundw
          case rel => exact ⟨j - 1, zs ++ [dS n j], by omega, by go_num, by simpa using hown2, hon2', by unfold Hid; rw [← hzs.out, Nat.sub_add_cancel hj1]; simp [row]⟩
          case measure => simp [intOf]; omega

/-- ZZappendBase128: behind the row's bytes it puts the subidentifier n. -/
theorem appendBase128_any (n : Nat) (hn2 : n < 9223372036854775808) (w : World) (base : Nat) (v : Value) (ys : List Int) (hm : ys.length ≤ 100000) (hb : base ≤ w.heap.size)
    (hown : w.ownsRow base 5 1 v ys.length (ys.map (Value.int .u8))) :
    Calls Try.prog 16 #[v, .int .i64 n] w fun e w' => ∃ v' k, Fits 128 n k ∧ e = .returned v' ∧ w'.ownsRow base 5 1 v' (ys ++ encS n k).length ((ys ++ encS n k).map (Value.int .u8)) ∧ Onto w w' v v' := by
  go_enter Try.func16, Try.ntmps16
  go_wp2_with (go_at_call 20; refine (appendBase128_in n hn2 w base v ys hm hb hown).mono ?_; rintro e w' ⟨v', k, hk, rfl, h1, h2⟩)
  go_ret
  exact ⟨_, k, hk, rfl, by simpa [encS, row_length] using h1, h2⟩

end Go.Proofs.Qxb6002689a
