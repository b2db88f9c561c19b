/-
  'Rows.FnAppendLengthDecodesBackSaid' proved. The frame is the skeleton tool's, its end turned to 'Below' (the call appends: its memory is its own); the walk is mine.
-/
import Derived.Test.Qxb6002689aRows
import Derived.WalkKit
import Derived.ProofKit
import Derived.OpenShut
import Derived.ShutString
import Derived.ChangeOld
import Derived.Below
import Derived.Test.Qxb6002689aEnc
import Derived.Test.Qxb6002689aRead
namespace Go.Proofs.Qxb6002689a.fnAppendLengthDecodesBack
open Go.ChangeShapes Go.WideShapes Go.ChangeAt Go.RowKit
open Go.ChangeMaps (open_string shut_string)
set_option linter.unusedVariables false

theorem own : ownKnob Try.prog.godebug = none := by kernel_rfl

/-! ### The walk -/
set_option maxRecDepth 1000000 in
theorem walk (a0 : Int) (w0 : (Lit.int .i64 a0).wf = true) (w : World) :
    Calls Try.prog 3 #[.int .i64 a0] w fun e w' => e = .returned (.bool true) ∧ Below w.heap.size w w' := by
  by_cases hneg : a0 < 0
  · go_enter Try.func3, Try.ntmps3
    go_wp2
    go_ret
    exact ⟨rfl, Below.refl _ _⟩
  · obtain ⟨n, rfl⟩ : ∃ n : Nat, a0 = n := ⟨a0.toNat, by omega⟩
    have hn2 : n < 9223372036854775808 := i64_lt w0
    clear w0
    go_enter Try.func3, Try.ntmps3
    go_wp2_with (go_at_call 9; refine (appendLength_any n hn2 w w.heap.size (.slice none 0 0) [] (by simp) (Nat.le_refl _) (World.ownsRow_nil _ _ _ _)).mono ?_; rintro e w1 ⟨v1, k, hk, rfl, hown, hon⟩)
    simp only [List.nil_append] at hown
    obtain ⟨g, cap, hv, -⟩ := ownsRow_some hown (by rw [encL_len]; split <;> omega)
    subst hv
    go_wp2_with (go_at_call 10; refine (readLength_any n k hn2 hk w1 _ _ hown).mono ?_; rintro e w2 ⟨rfl, rfl⟩)
    go_ret
    exact ⟨rfl, hon.below (Nat.le_refl _) (by simp [Value.ownBlock])⟩

/-! ### The row's step (the tool's) -/
set_option maxRecDepth 100000 in
theorem lifted (os : Os) (started : os.Started) (H : Type) (enc : TypeId × Value → H) :
    ReturnsInHanded {} Try.checked os 3 .any (Rows.fnAppendLengthDecodesBackSpec.pre6 enc Try.prog Try.f3 Rows.fnAppendLengthDecodesBackRow.domain false) (Rows.fnAppendLengthDecodesBackSpec.post enc Try.prog Try.f3 false true false false) := by
  refine returnsInHanded_of_change (C := Try.checked) own started (by kernel_rfl) Try.func3
    (ChangeSpec.witness6 (enc := enc) (C := Try.checked) false ⟨#[], #[.int .i64 0], []⟩ 8 (by kernel_rfl) (by kernel_rfl) (by kernel_rfl) (by kernel_rfl)) ?_
  intro W base args ds gs before hval0 hW hcnd _
  have hval : ∀ (j : Nat) t v, Try.f3.params[j]? = some t → args[j]? = some v → Value.okWide Try.prog W .any base t v := hval0
  have hW' := hW
  obtain ⟨p, q, hA0, hV, rfl, hfz, hnd⟩ := hW
  have hA : DataW.TrodAll enc Try.prog W 0 (fun _ => true) true Try.f3.params.toList args.toList ds p := hA0
  rw [Try.params3] at hA hval
  obtain ⟨v0, vs0, d0, ds0, p0, q0, hargs, rfl, rfl, h0, r0⟩ := trodAll_cons hA
  obtain ⟨rfl, rfl, rfl⟩ := trodAll_nil r0
  obtain rfl : args = #[v0] := by cases args; simp_all
  obtain ⟨rfl, rfl⟩ := trodVars_none hV
  obtain ⟨a0, rfl, rfl, rfl, w0⟩ := open_int Try.underlying3 (hval 0 3 v0 rfl rfl) h0
  clear hA0 hval0
  refine (walk a0 w0 W).mono fun e W' ⟨he, bel⟩ => ?_
  subst he
  exact ⟨_, rfl, _, _, _, [], _, [], hW', trodAll_mk1 (shut_bool Try.underlying4 _), (trodAll_cons_mk (shut_int Try.underlying3 w0) trodAll_mk0), rfl, bel.frame _, fun h => by cases h⟩

theorem over : Rows.fnAppendLengthDecodesBackRow.holds Try.pinned (OpenSpec.ofChange Rows.fnAppendLengthDecodesBackSpec) :=
  OpenClaim.holds_of_wide 3 Try.f3 rfl rfl rfl rfl rfl rfl rfl ⟨rfl, rfl, rfl, rfl, rfl⟩ rfl rfl rfl rfl rfl (by kernel_rfl) Try.func3 (by kernel_rfl)
    (of_decide_eq_true (by kernel_rfl)) (by unfold Func.isWrapper; first | (rw [if_pos (by decide +kernel)]; kernel_rfl) | (rw [if_neg (by decide +kernel)]; exact ⟨rfl, rfl⟩))
    (fun os started H enc _ => lifted os started H enc)

/-- The statement. -/
theorem proved : Rows.FnAppendLengthDecodesBackSaid :=
  over
end Go.Proofs.Qxb6002689a.fnAppendLengthDecodesBack
