/-
  'Rows.FnAppendBase128OrderPreservingSaid' proved. The frame is the skeleton tool's, its end in 'Below' (the call appends: its memory is its own); the walk is mine.
-/
import Derived.Test.Qxb6002689aRows
import Derived.WalkKit
import Derived.ProofKit
import Derived.OpenShut
import Derived.ShutString
import Derived.ChangeOld
import Derived.Below
import Derived.Test.Qxb6002689aEnc
import Derived.Test.Qxb6002689aCmp
namespace Go.Proofs.Qxb6002689a.fnAppendBase128OrderPreserving
open Go.ChangeShapes Go.WideShapes Go.ChangeAt Go.RowKit
open Go.ChangeMaps (open_string shut_string)
set_option linter.unusedVariables false

theorem own : ownKnob Try.prog.godebug = none := by kernel_rfl

/-! ### The walk: the two numbers in order -/
/-- What the two encodings leave: both rows lie in the last world. -/
theorem both {w w1 w2 : World} {v1 v2 : Value} {xs ys : List Int} (hown1 : w1.ownsRow w.heap.size 5 1 v1 ([] ++ xs).length (([] ++ xs).map (Value.int .u8))) (hon1 : Onto w w1 (.slice none 0 0) v1)
    (hown2 : w2.ownsRow w.heap.size 5 1 v2 ([] ++ ys).length (([] ++ ys).map (Value.int .u8))) (hon2 : Onto w1 w2 (.slice none 0 0) v2) :
    ∃ a b c d, v1 = .slice a xs.length c ∧ v2 = .slice b ys.length d ∧ Reads w2 a xs ∧ Reads w2 b ys ∧ Below w.heap.size w w2 ∧ w.heap.size ≤ w2.heap.size := by
  simp only [List.nil_append] at hown1 hown2
  have h1 := hon2.keeps hown1 (by cases v1.ownBlock <;> simp [Value.ownBlock])
  obtain ⟨a, c, e1, r1⟩ := reads_own h1
  obtain ⟨b, d, e2, r2⟩ := reads_own hown2
  have s1 := hon1.1.size
  have s2 := hon2.1.size
  exact ⟨a, b, c, d, e1, e2, r1, r2, (hon1.below (Nat.le_refl _) (by simp [Value.ownBlock])).trans (hon2.below s1 (by simp [Value.ownBlock])), by omega⟩

theorem encS_short {n k : Nat} (hn : n < 9223372036854775808) (hk : Fits 128 n k) : (encS n k).length ≤ 9 := by
  have h1 := hk.1
  have h2 := hk.le128 hn
  rw [encS_len]; omega

set_option maxHeartbeats 1000000 in
set_option maxRecDepth 1000000 in
theorem walk_eq (n : Nat) (hn : n < 9223372036854775808)  (w : World) :
    Calls Try.prog 8 #[.int .i64 n, .int .i64 n] w fun e w' => e = .returned (.bool true) ∧ Below w.heap.size w w' := by
  go_enter Try.func8, Try.ntmps8
  have tok1 : True := trivial
  go_wp2_with (go_at_call 16; have _t := tok1; refine (appendBase128_any n hn w w.heap.size (.slice none 0 0) [] (by simp) (Nat.le_refl _) (World.ownsRow_nil _ _ _ _)).mono ?_; rintro e w1 ⟨v1, k1, hk1, rfl, hown1, hon1⟩; clear tok1)
  have hs1 := hon1.1.size
  go_at_call 16
  refine (appendBase128_any n hn w1 w.heap.size (.slice none 0 0) [] (by simp) hs1 (World.ownsRow_nil _ _ _ _)).mono ?_
  rintro e w2 ⟨v2, k2, hk2, rfl, hown2, hon2⟩
  obtain ⟨a, b, c, d, hv1, hv2, r1, r2, bel, hsz⟩ := both hown1 hon1 hown2 hon2
  have l1 := encS_short hn hk1
  have l2 := encS_short hn hk2
  clear hown1 hown2 hon1 hon2 hs1
  subst hv1 hv2
  obtain rfl := hk1.uniq hk2
  go_wp2_with (go_at_call 14; refine (equal_in _ (by omega) w2 a b c d r1 r2).mono ?_; rintro e w3 ⟨rfl, hb3⟩)
  go_ret
  exact ⟨rfl, bel.trans (hb3.mono hsz)⟩

set_option maxHeartbeats 1000000 in
set_option maxRecDepth 1000000 in
theorem walk_lt (n m : Nat) (hn : n < 9223372036854775808) (hm : m < 9223372036854775808) (hlt : n < m) (w : World) :
    Calls Try.prog 8 #[.int .i64 n, .int .i64 m] w fun e w' => e = .returned (.bool true) ∧ Below w.heap.size w w' := by
  have hne : ((n : Int) == (m : Int)) = false := by simp; omega
  go_enter Try.func8, Try.ntmps8
  have tok1 : True := trivial
  go_wp2_with (go_at_call 16; have _t := tok1; refine (appendBase128_any n hn w w.heap.size (.slice none 0 0) [] (by simp) (Nat.le_refl _) (World.ownsRow_nil _ _ _ _)).mono ?_; rintro e w1 ⟨v1, k1, hk1, rfl, hown1, hon1⟩; clear tok1)
  have hs1 := hon1.1.size
  go_at_call 16
  refine (appendBase128_any m hm w1 w.heap.size (.slice none 0 0) [] (by simp) hs1 (World.ownsRow_nil _ _ _ _)).mono ?_
  rintro e w2 ⟨v2, k2, hk2, rfl, hown2, hon2⟩
  obtain ⟨a, b, c, d, hv1, hv2, r1, r2, bel, hsz⟩ := both hown1 hon1 hown2 hon2
  have l1 := encS_short hn hk1
  have l2 := encS_short hm hk2
  clear hown1 hown2 hon1 hon2 hs1
  subst hv1 hv2
  rcases encS_order hk1 hk2 hlt with hl | ⟨hl, p, hp⟩
  · go_wp2
    go_ret
    exact ⟨rfl, bel⟩
  · have hc := less_in _ _ (by omega) (by omega) p hp w2 a b c d r1 r2
    rw [← hl] at hc ⊢
    clear hl hp l2 r1 r2
    go_wp2_with (go_at_call 15; refine hc.mono ?_; rintro e w3 ⟨rfl, hb3⟩)
    go_ret
    exact ⟨rfl, bel.trans (hb3.mono hsz)⟩

set_option maxHeartbeats 1000000 in
set_option maxRecDepth 1000000 in
theorem walk_gt (n m : Nat) (hn : n < 9223372036854775808) (hm : m < 9223372036854775808) (hlt : m < n) (w : World) :
    Calls Try.prog 8 #[.int .i64 n, .int .i64 m] w fun e w' => e = .returned (.bool true) ∧ Below w.heap.size w w' := by
  have hne : ((m : Int) == (n : Int)) = false := by simp; omega
  go_enter Try.func8, Try.ntmps8
  have tok1 : True := trivial
  go_wp2_with (go_at_call 16; have _t := tok1; refine (appendBase128_any m hm w w.heap.size (.slice none 0 0) [] (by simp) (Nat.le_refl _) (World.ownsRow_nil _ _ _ _)).mono ?_; rintro e w1 ⟨v1, k1, hk1, rfl, hown1, hon1⟩; clear tok1)
  have hs1 := hon1.1.size
  go_at_call 16
  refine (appendBase128_any n hn w1 w.heap.size (.slice none 0 0) [] (by simp) hs1 (World.ownsRow_nil _ _ _ _)).mono ?_
  rintro e w2 ⟨v2, k2, hk2, rfl, hown2, hon2⟩
  obtain ⟨a, b, c, d, hv1, hv2, r1, r2, bel, hsz⟩ := both hown1 hon1 hown2 hon2
  have l1 := encS_short hm hk1
  have l2 := encS_short hn hk2
  clear hown1 hown2 hon1 hon2 hs1
  subst hv1 hv2
  rcases encS_order hk1 hk2 hlt with hl | ⟨hl, p, hp⟩
  · go_wp2
    go_ret
    exact ⟨rfl, bel⟩
  · have hc := less_in _ _ (by omega) (by omega) p hp w2 a b c d r1 r2
    rw [← hl] at hc ⊢
    clear hl hp l2 r1 r2
    go_wp2_with (go_at_call 15; refine hc.mono ?_; rintro e w3 ⟨rfl, hb3⟩)
    go_ret
    exact ⟨rfl, bel.trans (hb3.mono hsz)⟩

set_option maxRecDepth 1000000 in
theorem walk (a0 : Int) (a1 : Int) (w0 : (Lit.int .i64 a0).wf = true) (w1 : (Lit.int .i64 a1).wf = true) (w : World) :
    Calls Try.prog 8 #[.int .i64 a0, .int .i64 a1] w fun e w' => e = .returned (.bool true) ∧ Below w.heap.size w w' := by
  by_cases h0 : a0 < 0
  · have hd : decide (a0 < 0) = true := decide_eq_true h0
    go_enter Try.func8, Try.ntmps8
    go_wp2
    go_ret
    exact ⟨rfl, Below.refl _ _⟩
  · by_cases h1 : a1 < 0
    · have hd : decide (a0 < 0) = false := decide_eq_false h0
      go_enter Try.func8, Try.ntmps8
      go_wp2
      go_ret
      exact ⟨rfl, Below.refl _ _⟩
    · obtain ⟨n, rfl⟩ : ∃ n : Nat, a0 = n := ⟨a0.toNat, by omega⟩
      obtain ⟨m, rfl⟩ : ∃ m : Nat, a1 = m := ⟨a1.toNat, by omega⟩
      rcases Nat.lt_trichotomy n m with h | rfl | h
      · exact walk_lt n m (i64_lt w0) (i64_lt w1) h w
      · exact walk_eq n (i64_lt w0) w
      · exact walk_gt n m (i64_lt w0) (i64_lt w1) h w

/-! ### The row's step (the tool's) -/
set_option maxRecDepth 100000 in
theorem lifted (os : Os) (started : os.Started) (H : Type) (enc : TypeId × Value → H) :
    ReturnsInHanded {} Try.checked os 8 .any (Rows.fnAppendBase128OrderPreservingSpec.pre6 enc Try.prog Try.f8 Rows.fnAppendBase128OrderPreservingRow.domain false) (Rows.fnAppendBase128OrderPreservingSpec.post enc Try.prog Try.f8 false true false false) := by
  refine returnsInHanded_of_change (C := Try.checked) own started (by kernel_rfl) Try.func8
    (ChangeSpec.witness6 (enc := enc) (C := Try.checked) false ⟨#[], #[.int .i64 0, .int .i64 0], []⟩ 8 (by kernel_rfl) (by kernel_rfl) (by kernel_rfl) (by kernel_rfl)) ?_
  intro W base args ds gs before hval0 hW hcnd _
  have hval : ∀ (j : Nat) t v, Try.f8.params[j]? = some t → args[j]? = some v → Value.okWide Try.prog W .any base t v := hval0
  have hW' := hW
  obtain ⟨p, q, hA0, hV, rfl, hfz, hnd⟩ := hW
  have hA : DataW.TrodAll enc Try.prog W 0 (fun _ => true) true Try.f8.params.toList args.toList ds p := hA0
  rw [Try.params8] at hA hval
  obtain ⟨v0, vs0, d0, ds0, p0, q0, hargs, rfl, rfl, h0, r0⟩ := trodAll_cons hA
  obtain ⟨v1, vs1, d1, ds1, p1, q1, rfl, rfl, rfl, h1, r1⟩ := trodAll_cons r0
  obtain ⟨rfl, rfl, rfl⟩ := trodAll_nil r1
  obtain rfl : args = #[v0, v1] := by cases args; simp_all
  obtain ⟨rfl, rfl⟩ := trodVars_none hV
  obtain ⟨a0, rfl, rfl, rfl, w0⟩ := open_int Try.underlying3 (hval 0 3 v0 rfl rfl) h0
  obtain ⟨a1, rfl, rfl, rfl, w1⟩ := open_int Try.underlying3 (hval 1 3 v1 rfl rfl) h1
  clear hA0 hval0
  refine (walk a0 a1 w0 w1 W).mono fun e W' ⟨he, bel⟩ => ?_
  subst he
  exact ⟨_, rfl, _, _, _, [], _, [], hW', trodAll_mk1 (shut_bool Try.underlying4 _), (trodAll_cons_mk (shut_int Try.underlying3 w0) (trodAll_cons_mk (shut_int Try.underlying3 w1) trodAll_mk0)), rfl, bel.frame _, fun h => by cases h⟩

theorem over : Rows.fnAppendBase128OrderPreservingRow.holds Try.pinned (OpenSpec.ofChange Rows.fnAppendBase128OrderPreservingSpec) :=
  OpenClaim.holds_of_wide 8 Try.f8 rfl rfl rfl rfl rfl rfl rfl ⟨rfl, rfl, rfl, rfl, rfl⟩ rfl rfl rfl rfl rfl (by kernel_rfl) Try.func8 (by kernel_rfl)
    (of_decide_eq_true (by kernel_rfl)) (by unfold Func.isWrapper; first | (rw [if_pos (by decide +kernel)]; kernel_rfl) | (rw [if_neg (by decide +kernel)]; exact ⟨rfl, rfl⟩))
    (fun os started H enc _ => lifted os started H enc)

/-- The statement. -/
theorem proved : Rows.FnAppendBase128OrderPreservingSaid :=
  over
end Go.Proofs.Qxb6002689a.fnAppendBase128OrderPreserving
