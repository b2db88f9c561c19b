/-
  'Rows.FnOutstandingBoundsSaid' proved. The frame is the skeleton tool's; the walk is mine.
-/
import Derived.Test.Qxb6003330aRows
import Derived.WalkKit
import Derived.ProofKit
import Derived.OpenShut
import Derived.ShutString
import Derived.ChangeOld
import Derived.Below
import Derived.Test.Qxb6003330aHold
namespace Go.Proofs.Qxb6003330a.fnOutstandingBounds
open Go.ChangeShapes Go.WideShapes Go.ChangeAt Go.RowKit
open Go.ChangeMaps (open_string shut_string)
set_option linter.unusedVariables false

theorem own : ownKnob Try.prog.godebug = none := by kernel_rfl
theorem laidOut : laidOutB Try.prog = true := by kernel_rfl

/-- What the walk is told of a slice of integers that came in: it is nil; or it leads to a row of 'cap' cells, the numbers 'zs' (the first 'len' are its elements), each fitting its kind. -/
def IsRow (k : IntKind) (w : World) (a : Option Addr) (len cap : Nat) (zs : List Int) : Prop :=
  (a = none ∧ len = 0 ∧ cap = 0 ∧ zs = []) ∨
  ∃ x, a = some x ∧ len ≤ cap ∧ cap ≤ maxLen ∧ zs.length = cap ∧ (∀ i, i < zs.length → w.cell? (x.add i) = some (.int k (zs.getD i 0))) ∧ ∀ n ∈ zs, (Lit.int k n).wf = true

/-- The elements, as they are read. -/
theorem isRow_reads {w : World} {a : Option Addr} {len cap : Nat} {zs : List Int} (h : IsRow .i64 w a len cap zs) :
    ∃ xs : List Int, len = xs.length ∧ Reads w a xs ∧ (a = none → xs = []) := by
  rcases h with ⟨rfl, rfl, rfl, rfl⟩ | ⟨x, rfl, h1, h2, h3, h4, h5⟩
  · exact ⟨[], rfl, .inl rfl, fun _ => rfl⟩
  · refine ⟨zs.take len, by simp; omega, ?_, by simp⟩
    rcases Nat.eq_zero_or_pos len with rfl | hl
    · left; simp
    · obtain ⟨b, off, spot⟩ := x
      have hspot : spot = none := by simpa [Addr.add] using World.cell?_spot (h4 0 (by omega))
      subst hspot
      refine .inr ⟨b, off, rfl, fun j hj => ?_⟩
      have hj' : j < len := by simp at hj; omega
      rw [← add_plain, h4 j (by omega)]
      simp [hj']

/-! ### The walk -/
set_option maxRecDepth 1000000 in
theorem bytes_yes (a : Option Addr) (len cap : Nat) (w : World) (h : len ≤ 1048576) :
    Calls Try.prog 17 #[.slice a len cap] w fun e w' => e = .returned (.bool true) ∧ w = w' := by
  go_enter Try.func17, Try.ntmps17
  go_wp2
  go_ret
  exact ⟨rfl, rfl⟩
set_option maxRecDepth 1000000 in
theorem bytes_no (a : Option Addr) (len cap : Nat) (w : World) (h : 1048576 < len) (h2 : len ≤ maxLen) :
    Calls Try.prog 17 #[.slice a len cap] w fun e w' => e = .returned (.bool false) ∧ w = w' := by
  unfold maxLen at h2
  go_enter Try.func17, Try.ntmps17
  go_wp2
  go_ret
  exact ⟨rfl, rfl⟩

/-- What the sum is worth, all at once. -/
theorem worth {xs : List Int} (hl : xs.length ≤ 65536) (h : Small xs xs.length) :
    ∃ T B : Int, ∃ Z : Bool, wrap64 (sumL xs xs.length) = T ∧ big xs xs.length = B ∧ zeros xs xs.length = Z ∧ 0 ≤ B ∧ B ≤ T ∧ T ≤ (xs.length : Int) * B ∧ 0 ≤ (xs.length : Int) * B ∧ (xs.length : Int) * B ≤ 4611686018427387904 ∧ (T == 0) = Z := by
  have h1 := big_bd xs _ h
  have h2 := sum_lo xs _ h
  have h3 := sum_hi xs _ h
  have h4 := sum_zero xs _ h
  have h5 : (xs.length : Int) * big xs xs.length ≤ 65536 * 70368744177664 := Int.mul_le_mul (by omega) h1.2 h1.1 (by omega)
  have h6 : wrap64 (sumL xs xs.length) = sumL xs xs.length := IntWalk.wrap64_in _ ⟨by omega, by omega⟩
  exact ⟨_, _, _, h6, rfl, rfl, h1.1, h2, h3, by omega, by omega, h4⟩

set_option maxHeartbeats 1000000 in
set_option maxRecDepth 1000000 in
theorem walk_in (a0 : Option Addr) (cap0 : Nat) (xs : List Int) (w : World) (hl : xs.length ≤ 65536) (hr : Reads w a0 xs) (hnil : a0 = none → xs = []) :
    Calls Try.prog 7 #[.slice a0 xs.length cap0] w fun e w' => e = .returned (.bool true) ∧ Below w.heap.size w w' := by
  go_enter Try.func7, Try.ntmps7
  go_wp2_with (go_at_call 17; refine (bytes_yes a0 xs.length cap0 w (by omega)).mono ?_; rintro e w' ⟨rfl, rfl⟩)
  go_loop [2, 3] (fun _ i => ∃ k : Nat, k ≤ xs.length ∧ i = .int .i64 k ∧ Hid (Small xs k)) (fun _ i => xs.length - (intOf i).toNat)
  case atStart => exact ⟨0, by omega, rfl, fun i hi => by omega⟩
  case round =>
    obtain ⟨k, hk, rfl, hsm⟩ := hrel
    by_cases hlt : k < xs.length
    · rcases hr with h | ⟨g, off, rfl, hr⟩
      · subst h; simp at hlt
      have c1 := hr k hlt
      obtain ⟨x, hx⟩ : ∃ x, xs.getD k 0 = x := ⟨_, rfl⟩
      rw [hx] at c1
      have HX : Hid (xs.getD k 0 = x) := hx
      clear hr hx
      by_cases h0 : x < 0
      · have hd : decide (x < 0) = true := decide_eq_true h0
        go_wp2
        go_ret
        exact ⟨rfl, Below.refl _ _⟩
      · have hd : decide (x < 0) = false := decide_eq_false h0
        by_cases h1 : 70368744177664 < x
        · go_wp2
          go_ret
          exact ⟨rfl, Below.refl _ _⟩
        · go_wp2
          go_round
          case rel =>
            refine ⟨k + 1, by omega, by go_num, fun i hi => ?_⟩
            by_cases e : i = k
            · subst e; rw [HX.out]; omega
            · exact hsm.out i (by omega)
          case measure => simp [intOf]; omega
    · obtain rfl : k = xs.length := by omega
      obtain ⟨T, B, Z, hT, hB, hZ, q1, q2, q3, q4, q5, q6⟩ := worth hl hsm.out
      have HB : Hid (big xs xs.length = B ∧ zeros xs xs.length = Z) := ⟨hB, hZ⟩
      have HT : Hid (wrap64 (sumL xs xs.length) = T) := hT
      clear hT hB hZ
      go_wp2_with (go_at_call 9; refine (clone_any xs (by omega) w a0 cap0 hr hnil).mono ?_; rintro e w1 ⟨vb, rfl, o1, b1⟩)
      obtain ⟨ab, cb, hvb, rb⟩ := reads_own o1
      subst hvb
      clear o1 hr hnil
      go_loop [4, 5, 6] (fun m z i => ∃ k : Nat, k ≤ xs.length ∧ i = .int .i64 k ∧ m = .int .i64 (big xs k) ∧ z = .bool (zeros xs k)) (fun _ _ i => xs.length - (intOf i).toNat)
      case atStart => exact ⟨0, by omega, rfl, rfl, rfl⟩
      case round =>
        obtain ⟨k, hk', rfl, rfl, rfl⟩ := hrel
        by_cases hlt : k < xs.length
        · rcases rb with h | ⟨g, off, rfl, rb⟩
          · subst h; simp at hlt
          have c1 := rb k hlt
          have hbs : Hid (big xs (k + 1) = if xs.getD k 0 > big xs k then xs.getD k 0 else big xs k) := rfl
          have hzs : Hid (zeros xs (k + 1) = if xs.getD k 0 != 0 then false else zeros xs k) := rfl
          obtain ⟨x, hx⟩ : ∃ x, xs.getD k 0 = x := ⟨_, rfl⟩
          obtain ⟨bk, hbk⟩ : ∃ x, big xs k = x := ⟨_, rfl⟩
          obtain ⟨zk, hzk⟩ : ∃ x, zeros xs k = x := ⟨_, rfl⟩
          rw [hx] at c1 hbs hzs
          rw [hbk] at hbs ⊢
          rw [hzk] at hzs ⊢
          clear rb hx hbk hzk
          by_cases h1 : bk < x
          · by_cases h2 : x = 0
            · subst h2
              go_wp2
              go_round
              case rel => exact ⟨k + 1, by omega, by go_num, by rw [hbs.out, if_pos h1], by rw [hzs.out]; rfl⟩
              case measure => simp [intOf]; omega
            · have h3 : (x == 0) = false := by simpa using h2
              go_wp2
              go_round
              case rel => exact ⟨k + 1, by omega, by go_num, by rw [hbs.out, if_pos h1], by rw [hzs.out, if_pos (by simpa using h2)]⟩
              case measure => simp [intOf]; omega
          · by_cases h2 : x = 0
            · subst h2
              go_wp2
              go_round
              case rel => exact ⟨k + 1, by omega, by go_num, by rw [hbs.out, if_neg h1], by rw [hzs.out]; rfl⟩
              case measure => simp [intOf]; omega
            · have h3 : (x == 0) = false := by simpa using h2
              go_wp2
              go_round
              case rel => exact ⟨k + 1, by omega, by go_num, by rw [hbs.out, if_neg h1], by rw [hzs.out, if_pos (by simpa using h2)]⟩
              case measure => simp [intOf]; omega
        · obtain rfl : k = xs.length := by omega
          rw [HB.out.1, HB.out.2]
          have hc := outOf_any xs (by omega) w1 ab cb rb
          rw [HT.out] at hc
          go_wp2_with (go_at_call 10; refine hc.mono ?_; rintro e w2 ⟨rfl, b2⟩)
          go_ret
          exact ⟨rfl, b1.trans (b2.mono b1.size)⟩

set_option maxRecDepth 1000000 in
theorem walk (a0 : Option Addr) (len0 cap0 : Nat) (z0 : List Int) (w : World) (w0 : IsRow .i64 w a0 len0 cap0 z0) :
    Calls Try.prog 7 #[.slice a0 len0 cap0] w fun e w' => e = .returned (.bool true) ∧ Below w.heap.size w w' := by
  have hm : len0 ≤ maxLen := by
    rcases w0 with ⟨_, rfl, _⟩ | ⟨x, _, h1, h2, _⟩
    · exact Nat.zero_le _
    · omega
  obtain ⟨xs, rfl, hr, hnil⟩ := isRow_reads w0
  clear w0
  by_cases hbig : 1048576 < xs.length
  · go_enter Try.func7, Try.ntmps7
    go_wp2_with (go_at_call 17; refine (bytes_no a0 xs.length cap0 w hbig hm).mono ?_; rintro e w' ⟨rfl, rfl⟩)
    go_ret
    exact ⟨rfl, Below.refl _ _⟩
  · by_cases hmid : 65536 < xs.length
    · go_enter Try.func7, Try.ntmps7
      go_wp2_with (go_at_call 17; refine (bytes_yes a0 xs.length cap0 w (by omega)).mono ?_; rintro e w' ⟨rfl, rfl⟩)
      go_ret
      exact ⟨rfl, Below.refl _ _⟩
    · exact walk_in a0 cap0 xs w (by omega) hr hnil

/-! ### The row's step (the tool's) -/
set_option maxRecDepth 100000 in
theorem lifted (os : Os) (started : os.Started) (H : Type) (enc : TypeId × Value → H) :
    ReturnsInHanded {} Try.checked os 7 .any (Rows.fnOutstandingBoundsSpec.pre6 enc Try.prog Try.f7 Rows.fnOutstandingBoundsRow.domain false) (Rows.fnOutstandingBoundsSpec.post enc Try.prog Try.f7 false true false false) := by
  refine returnsInHanded_of_change (C := Try.checked) own started (by kernel_rfl) Try.func7
    (ChangeSpec.witness6 (enc := enc) (C := Try.checked) false ⟨#[], #[.slice none 0 0], []⟩ 8 (by kernel_rfl) (by kernel_rfl) (by kernel_rfl) (by kernel_rfl)) ?_
  intro W base args ds gs before hval0 hW hcnd _
  have hval : ∀ (j : Nat) t v, Try.f7.params[j]? = some t → args[j]? = some v → Value.okWide Try.prog W .any base t v := hval0
  have hW' := hW
  obtain ⟨p, q, hA0, hV, rfl, hfz, hnd⟩ := hW
  have hA : DataW.TrodAll enc Try.prog W 0 (fun _ => true) true Try.f7.params.toList args.toList ds p := hA0
  rw [Try.params7] at hA hval
  obtain ⟨v0, vs0, d0, ds0, p0, q0, hargs, rfl, rfl, h0, r0⟩ := trodAll_cons hA
  obtain ⟨rfl, rfl, rfl⟩ := trodAll_nil r0
  obtain rfl : args = #[v0] := by cases args; simp_all
  obtain ⟨rfl, rfl⟩ := trodVars_none hV
  obtain ⟨a0, len0, cap0, rfl⟩ := okWide_slice Try.underlying22 (hval 0 22 v0 rfl rfl)
  have k0 := h0
  have lt0 : ∀ x ∈ p0, x.block < W.heap.size := by obtain ⟨m, hm⟩ := k0; exact DataW.trod_lt m _ _ _ hm
  obtain ⟨z0, w0⟩ : ∃ zs, IsRow .i64 W a0 len0 cap0 zs := by
    obtain ⟨fuel, hf⟩ := h0
    rcases open_ints Try.underlying22 Try.underlying2 (by kernel_rfl) hf with ⟨hcs, _⟩ | ⟨x, l, c, zs, hcs, _, hl, hm, hz, _, hcell, hwz⟩
    · simp [Value.cells] at hcs
      obtain ⟨rfl, rfl, rfl⟩ := hcs
      exact ⟨[], .inl ⟨rfl, rfl, rfl, rfl⟩⟩
    · simp [Value.cells] at hcs
      obtain ⟨rfl, rfl, rfl⟩ := hcs
      exact ⟨zs, .inr ⟨_, rfl, hl, hm, by simpa using hz, hcell, hwz⟩⟩
  clear hA0 hval0
  refine (walk a0 len0 cap0 z0 W w0).mono fun e W' ⟨he, bel⟩ => ?_
  subst he
  exact ⟨_, rfl, _, _, _, [], _, [], hW', trodAll_mk1 (shut_bool Try.underlying4 _), (trodAll_cons_mk (Below.trod laidOut (by kernel_rfl) (of_decide_eq_true (by kernel_rfl)) k0 bel lt0) trodAll_mk0), rfl, bel.frame _, fun h => by cases h⟩

theorem over : Rows.fnOutstandingBoundsRow.holds Try.pinned (OpenSpec.ofChange Rows.fnOutstandingBoundsSpec) :=
  OpenClaim.holds_of_wide 7 Try.f7 rfl rfl rfl rfl rfl rfl rfl ⟨rfl, rfl, rfl, rfl, rfl⟩ rfl rfl rfl rfl rfl (by kernel_rfl) Try.func7 (by kernel_rfl)
    (of_decide_eq_true (by kernel_rfl)) (by unfold Func.isWrapper; first | (rw [if_pos (by decide +kernel)]; kernel_rfl) | (rw [if_neg (by decide +kernel)]; exact ⟨rfl, rfl⟩))
    (fun os started H enc _ => lifted os started H enc)

/-- The statement. -/
theorem proved : Rows.FnOutstandingBoundsSaid := over
end Go.Proofs.Qxb6003330a.fnOutstandingBounds
