/-
  'Rows.FnAppendBase128DecodesBackSaid' proved. The frame is the skeleton tool's, its end in 'Below' (the call appends: its memory is its own); the walk is mine.
-/
import Derived.Test.Qxb6002689aRows
import Derived.WalkKit
import Derived.ProofKit
import Derived.OpenShut
import Derived.ShutString
import Derived.ChangeOld
import Derived.Below
import Derived.Test.Qxb6002689aEnc
import Derived.Test.Qxb6002689aRead
namespace Go.Proofs.Qxb6002689a.fnAppendBase128DecodesBack
open Go.ChangeShapes Go.WideShapes Go.ChangeAt Go.RowKit
open Go.ChangeMaps (open_string shut_string)
set_option linter.unusedVariables false

theorem own : ownKnob Try.prog.godebug = none := by kernel_rfl

/-! ### The walk -/
set_option maxRecDepth 1000000 in
theorem walk (a0 : Int) (w0 : (Lit.int .i64 a0).wf = true) (w : World) :
    Calls Try.prog 6 #[.int .i64 a0] w fun e w' => e = .returned (.bool true) ∧ Below w.heap.size w w' := by
  by_cases hneg : a0 < 0
  · go_enter Try.func6, Try.ntmps6
    go_wp2
    go_ret
    exact ⟨rfl, Below.refl _ _⟩
  · obtain ⟨n, rfl⟩ : ∃ n : Nat, a0 = n := ⟨a0.toNat, by omega⟩
    have hn2 : n < 9223372036854775808 := i64_lt w0
    clear w0
    go_enter Try.func6, Try.ntmps6
    go_wp2_with (go_at_call 16; refine (appendBase128_any n hn2 w w.heap.size (.slice none 0 0) [] (by simp) (Nat.le_refl _) (World.ownsRow_nil _ _ _ _)).mono ?_; rintro e w1 ⟨v1, k, hk, rfl, hown, hon⟩)
    have hk1 := hk.1
    have hk9 := hk.le128 hn2
    have hc := readSubid_any n k hn2 hk w1 _ v1 0 [] [] rfl (by simp [encS_len]; omega) (by simpa using hown)
    simp only [List.nil_append] at hown hc
    obtain ⟨g, cap, hv, -⟩ := ownsRow_some hown (by rw [encS_len]; omega)
    subst hv
    go_wp2_with (go_at_call 17; refine hc.mono ?_; rintro e w2 ⟨rfl, rfl⟩)
    go_ret
    exact ⟨rfl, hon.below (Nat.le_refl _) (by simp [Value.ownBlock])⟩

/-! ### The row's step (the tool's) -/
set_option maxRecDepth 100000 in
theorem lifted (os : Os) (started : os.Started) (H : Type) (enc : TypeId × Value → H) :
    ReturnsInHanded {} Try.checked os 6 .any (Rows.fnAppendBase128DecodesBackSpec.pre6 enc Try.prog Try.f6 Rows.fnAppendBase128DecodesBackRow.domain false) (Rows.fnAppendBase128DecodesBackSpec.post enc Try.prog Try.f6 false true false false) := by
  refine returnsInHanded_of_change (C := Try.checked) own started (by kernel_rfl) Try.func6
    (ChangeSpec.witness6 (enc := enc) (C := Try.checked) false ⟨#[], #[.int .i64 0], []⟩ 8 (by kernel_rfl) (by kernel_rfl) (by kernel_rfl) (by kernel_rfl)) ?_
  intro W base args ds gs before hval0 hW hcnd _
  have hval : ∀ (j : Nat) t v, Try.f6.params[j]? = some t → args[j]? = some v → Value.okWide Try.prog W .any base t v := hval0
  have hW' := hW
  obtain ⟨p, q, hA0, hV, rfl, hfz, hnd⟩ := hW
  have hA : DataW.TrodAll enc Try.prog W 0 (fun _ => true) true Try.f6.params.toList args.toList ds p := hA0
  rw [Try.params6] at hA hval
  obtain ⟨v0, vs0, d0, ds0, p0, q0, hargs, rfl, rfl, h0, r0⟩ := trodAll_cons hA
  obtain ⟨rfl, rfl, rfl⟩ := trodAll_nil r0
  obtain rfl : args = #[v0] := by cases args; simp_all
  obtain ⟨rfl, rfl⟩ := trodVars_none hV
  obtain ⟨a0, rfl, rfl, rfl, w0⟩ := open_int Try.underlying3 (hval 0 3 v0 rfl rfl) h0
  clear hA0 hval0
  refine (walk a0 w0 W).mono fun e W' ⟨he, bel⟩ => ?_
  subst he
  exact ⟨_, rfl, _, _, _, [], _, [], hW', trodAll_mk1 (shut_bool Try.underlying4 _), (trodAll_cons_mk (shut_int Try.underlying3 w0) trodAll_mk0), rfl, bel.frame _, fun h => by cases h⟩

theorem over : Rows.fnAppendBase128DecodesBackRow.holds Try.pinned (OpenSpec.ofChange Rows.fnAppendBase128DecodesBackSpec) :=
  OpenClaim.holds_of_wide 6 Try.f6 rfl rfl rfl rfl rfl rfl rfl ⟨rfl, rfl, rfl, rfl, rfl⟩ rfl rfl rfl rfl rfl (by kernel_rfl) Try.func6 (by kernel_rfl)
    (of_decide_eq_true (by kernel_rfl)) (by unfold Func.isWrapper; first | (rw [if_pos (by decide +kernel)]; kernel_rfl) | (rw [if_neg (by decide +kernel)]; exact ⟨rfl, rfl⟩))
    (fun os started H enc _ => lifted os started H enc)

/-- The statement. -/
theorem proved : Rows.FnAppendBase128DecodesBackSaid :=
  over
end Go.Proofs.Qxb6002689a.fnAppendBase128DecodesBack
