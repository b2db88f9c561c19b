/-
  'Rows.FnOutstandingReleaseScriptSaid' proved. The frame is typed after the skeleton tool's (four slices, one of bools); the walk is in Qxb6003330aScript.
-/
import Derived.Test.Qxb6003330aRows
import Derived.WalkKit
import Derived.ProofKit
import Derived.OpenShut
import Derived.ShutString
import Derived.ChangeOld
import Derived.Below
import Derived.Deep.Grids
import Derived.Test.Qxb6003330aScript
namespace Go.Proofs.Qxb6003330a.fnOutstandingReleaseScript
open Go.ChangeShapes Go.WideShapes Go.ChangeAt Go.RowKit
set_option linter.unusedVariables false

theorem own : ownKnob Try.prog.godebug = none := by kernel_rfl
theorem laidOut : laidOutB Try.prog = true := by kernel_rfl

/-- What the walk is told of a slice of integers that came in: it is nil; or it leads to a row of 'cap' cells, the numbers 'zs' (the first 'len' are its elements), each fitting its kind. -/
def IsRow (k : IntKind) (w : World) (a : Option Addr) (len cap : Nat) (zs : List Int) : Prop :=
  (a = none ∧ len = 0 ∧ cap = 0 ∧ zs = []) ∨
  ∃ x, a = some x ∧ len ≤ cap ∧ cap ≤ maxLen ∧ zs.length = cap ∧ (∀ i, i < zs.length → w.cell? (x.add i) = some (.int k (zs.getD i 0))) ∧ ∀ n ∈ zs, (Lit.int k n).wf = true

/-- The elements, as they are read. -/
theorem isRow_reads {w : World} {a : Option Addr} {len cap : Nat} {zs : List Int} (h : IsRow .i64 w a len cap zs) :
    ∃ xs : List Int, len = xs.length ∧ Reads w a xs ∧ (a = none → xs = []) := by
  rcases h with ⟨rfl, rfl, rfl, rfl⟩ | ⟨x, rfl, h1, h2, h3, h4, h5⟩
  · exact ⟨[], rfl, .inl rfl, fun _ => rfl⟩
  · refine ⟨zs.take len, by simp; omega, ?_, by simp⟩
    rcases Nat.eq_zero_or_pos len with rfl | hl
    · left; simp
    · obtain ⟨b, off, spot⟩ := x
      have hspot : spot = none := by simpa [Addr.add] using World.cell?_spot (h4 0 (by omega))
      subst hspot
      refine .inr ⟨b, off, rfl, fun j hj => ?_⟩
      have hj' : j < len := by simp at hj; omega
      rw [← add_plain, h4 j (by omega)]
      simp [hj']

theorem isRow_max {k : IntKind} {w : World} {a : Option Addr} {len cap : Nat} {zs : List Int} (h : IsRow k w a len cap zs) : len ≤ maxLen := by
  rcases h with ⟨_, rfl, _⟩ | ⟨x, _, h1, h2, _⟩
  · exact Nat.zero_le _
  · omega

/-- The same of a slice of bools. -/
def IsRowB (w : World) (a : Option Addr) (len cap : Nat) (B : Nat → Bool) : Prop :=
  (a = none ∧ len = 0 ∧ cap = 0) ∨ ∃ x, a = some x ∧ len ≤ cap ∧ cap ≤ maxLen ∧ ∀ i, i < cap → w.cell? (x.add i) = some (.bool (B i))

theorem isRowB_max {w : World} {a : Option Addr} {len cap : Nat} {B : Nat → Bool} (h : IsRowB w a len cap B) : len ≤ maxLen := by
  rcases h with ⟨_, rfl, _⟩ | ⟨x, _, h1, h2, _⟩
  · exact Nat.zero_le _
  · omega

theorem isRowB_reads {w : World} {a : Option Addr} {len cap : Nat} {B : Nat → Bool} (h : IsRowB w a len cap B) :
    ∃ bs : List Bool, len = bs.length ∧ ReadsB w a bs := by
  rcases h with ⟨rfl, rfl, rfl⟩ | ⟨x, rfl, h1, h2, h4⟩
  · exact ⟨[], rfl, .inl rfl⟩
  · refine ⟨(List.range len).map B, by simp, ?_⟩
    rcases Nat.eq_zero_or_pos len with rfl | hl
    · left; simp
    · obtain ⟨b, off, spot⟩ := x
      have hspot : spot = none := by simpa [Addr.add] using World.cell?_spot (h4 0 (by omega))
      subst hspot
      refine .inr ⟨b, off, rfl, fun j hj => ?_⟩
      have hj' : j < len := by simpa using hj
      rw [← add_plain, h4 j (by omega)]
      simp [hj']

/-! ### The walk -/
set_option maxHeartbeats 1000000 in
set_option maxRecDepth 1000000 in
theorem walk (a0 a1 a2 a3 : Option Addr) (len0 cap0 len1 cap1 len2 cap2 len3 cap3 : Nat) (z0 z1 z2 : List Int) (z3 : Nat → Bool) (w : World)
    (w0 : IsRow .i64 w a0 len0 cap0 z0) (w1 : IsRow .i64 w a1 len1 cap1 z1) (w2 : IsRow .i64 w a2 len2 cap2 z2) (w3 : IsRowB w a3 len3 cap3 z3) :
    Calls Try.prog 6 #[.slice a0 len0 cap0, .slice a1 len1 cap1, .slice a2 len2 cap2, .slice a3 len3 cap3] w fun e w' => e = .returned (.bool true) ∧ Below w.heap.size w w' := by
  have m0 := isRow_max w0
  have m1 := isRow_max w1
  have m2 := isRow_max w2
  have m3 := isRowB_max w3
  by_cases g0 : 4096 < len0
  · clear w0 w1 w2 w3
    have dlen0 : decide ((4096 : Int) < (len0 : Int)) = true := decide_eq_true (by omega)
    go_enter Try.func6, Try.ntmps6
    go_wp2_with (go_at_call 16; refine (script_bytes_any a0 a1 a2 a3 len0 len1 len2 len3 cap0 cap1 cap2 cap3 w m0 m1 m2 m3).mono ?_; rintro e w' ⟨⟨b, rfl⟩, rfl⟩)
    all_goals (go_ret; exact ⟨rfl, Below.refl _ _⟩)
  by_cases g1 : 1024 < len1
  · clear w0 w1 w2 w3
    have dlen0 : decide ((4096 : Int) < (len0 : Int)) = false := decide_eq_false (by omega)
    have dlen1 : decide ((1024 : Int) < (len1 : Int)) = true := decide_eq_true (by omega)
    go_enter Try.func6, Try.ntmps6
    go_wp2_with (go_at_call 16; refine (script_bytes_any a0 a1 a2 a3 len0 len1 len2 len3 cap0 cap1 cap2 cap3 w m0 m1 m2 m3).mono ?_; rintro e w' ⟨⟨b, rfl⟩, rfl⟩)
    all_goals (go_ret; exact ⟨rfl, Below.refl _ _⟩)
  by_cases g2 : 1024 < len2
  · clear w0 w1 w2 w3
    have dlen0 : decide ((4096 : Int) < (len0 : Int)) = false := decide_eq_false (by omega)
    have dlen1 : decide ((1024 : Int) < (len1 : Int)) = false := decide_eq_false (by omega)
    have dlen2 : decide ((1024 : Int) < (len2 : Int)) = true := decide_eq_true (by omega)
    go_enter Try.func6, Try.ntmps6
    go_wp2_with (go_at_call 16; refine (script_bytes_any a0 a1 a2 a3 len0 len1 len2 len3 cap0 cap1 cap2 cap3 w m0 m1 m2 m3).mono ?_; rintro e w' ⟨⟨b, rfl⟩, rfl⟩)
    all_goals (go_ret; exact ⟨rfl, Below.refl _ _⟩)
  by_cases g3 : 1024 < len3
  · clear w0 w1 w2 w3
    have dlen0 : decide ((4096 : Int) < (len0 : Int)) = false := decide_eq_false (by omega)
    have dlen1 : decide ((1024 : Int) < (len1 : Int)) = false := decide_eq_false (by omega)
    have dlen2 : decide ((1024 : Int) < (len2 : Int)) = false := decide_eq_false (by omega)
    have dlen3 : decide ((1024 : Int) < (len3 : Int)) = true := decide_eq_true (by omega)
    go_enter Try.func6, Try.ntmps6
    go_wp2_with (go_at_call 16; refine (script_bytes_any a0 a1 a2 a3 len0 len1 len2 len3 cap0 cap1 cap2 cap3 w m0 m1 m2 m3).mono ?_; rintro e w' ⟨⟨b, rfl⟩, rfl⟩)
    all_goals (go_ret; exact ⟨rfl, Below.refl _ _⟩)
  by_cases hz : len0 = 0
  · clear w0 w1 w2 w3
    subst hz
    go_enter Try.func6, Try.ntmps6
    go_wp2_with (go_at_call 16; refine (script_bytes a0 a1 a2 a3 _ _ _ _ cap0 cap1 cap2 cap3 w (by omega) (by omega) (by omega) (by omega)).mono ?_; rintro e w' ⟨rfl, rfl⟩)
    go_ret
    exact ⟨rfl, Below.refl _ _⟩
  · obtain ⟨xs, rfl, r0, hnil⟩ := isRow_reads w0
    obtain ⟨is, e1, r1, -⟩ := isRow_reads w1
    obtain ⟨am, e2, r2, -⟩ := isRow_reads w2
    obtain ⟨rl, e3, r3⟩ := isRowB_reads w3
    obtain ⟨st, hst⟩ : ∃ st, (len2 < len1 ∧ len3 < len2 ∧ st = len3) ∨ (len2 < len1 ∧ ¬ len3 < len2 ∧ st = len2) ∨ (¬ len2 < len1 ∧ len3 < len1 ∧ st = len3) ∨ (¬ len2 < len1 ∧ ¬ len3 < len1 ∧ st = len1) := by
      by_cases h : len2 < len1
      · by_cases h' : len3 < len2
        · exact ⟨_, .inl ⟨h, h', rfl⟩⟩
        · exact ⟨_, .inr (.inl ⟨h, h', rfl⟩)⟩
      · by_cases h' : len3 < len1
        · exact ⟨_, .inr (.inr (.inl ⟨h, h', rfl⟩))⟩
        · exact ⟨_, .inr (.inr (.inr ⟨h, h', rfl⟩))⟩
    exact script_in xs is am rl a0 a1 a2 a3 len1 len2 len3 st cap0 cap1 cap2 cap3 w e1 e2 e3 (by omega) (by omega) (by omega) (by omega) (by omega) hst r0 hnil r1 r2 r3

/-! ### The row's step (the tool's) -/
set_option maxRecDepth 100000 in
theorem lifted (os : Os) (started : os.Started) (H : Type) (enc : TypeId × Value → H) :
    ReturnsInHanded {} Try.checked os 6 .any (Rows.fnOutstandingReleaseScriptSpec.pre6 enc Try.prog Try.f6 Rows.fnOutstandingReleaseScriptRow.domain false) (Rows.fnOutstandingReleaseScriptSpec.post enc Try.prog Try.f6 false true false false) := by
  refine returnsInHanded_of_change (C := Try.checked) own started (by kernel_rfl) Try.func6
    (ChangeSpec.witness6 (enc := enc) (C := Try.checked) false ⟨#[], #[.slice none 0 0, .slice none 0 0, .slice none 0 0, .slice none 0 0], []⟩ 8 (by kernel_rfl) (by kernel_rfl) (by kernel_rfl) (by kernel_rfl)) ?_
  intro W base args ds gs before hval0 hW hcnd _
  have hval : ∀ (j : Nat) t v, Try.f6.params[j]? = some t → args[j]? = some v → Value.okWide Try.prog W .any base t v := hval0
  have hW' := hW
  obtain ⟨p, q, hA0, hV, rfl, hfz, hnd⟩ := hW
  have hA : DataW.TrodAll enc Try.prog W 0 (fun _ => true) true Try.f6.params.toList args.toList ds p := hA0
  rw [Try.params6] at hA hval
  obtain ⟨v0, vs0, d0, ds0, p0, q0, hargs, rfl, rfl, h0, r0⟩ := trodAll_cons hA
  obtain ⟨v1, vs1, d1, ds1, p1, q1, rfl, rfl, rfl, h1, r1⟩ := trodAll_cons r0
  obtain ⟨v2, vs2, d2, ds2, p2, q2, rfl, rfl, rfl, h2, r2⟩ := trodAll_cons r1
  obtain ⟨v3, vs3, d3, ds3, p3, q3, rfl, rfl, rfl, h3, r3⟩ := trodAll_cons r2
  obtain ⟨rfl, rfl, rfl⟩ := trodAll_nil r3
  obtain rfl : args = #[v0, v1, v2, v3] := by cases args; simp_all
  obtain ⟨rfl, rfl⟩ := trodVars_none hV
  obtain ⟨a0, len0, cap0, rfl⟩ := okWide_slice Try.underlying22 (hval 0 22 v0 rfl rfl)
  have k0 := h0
  have lt0 : ∀ x ∈ p0, x.block < W.heap.size := by obtain ⟨m, hm⟩ := k0; exact DataW.trod_lt m _ _ _ hm
  obtain ⟨z0, w0⟩ : ∃ zs, IsRow .i64 W a0 len0 cap0 zs := by
    obtain ⟨fuel, hf⟩ := h0
    rcases open_ints Try.underlying22 Try.underlying2 (by kernel_rfl) hf with ⟨hcs, _⟩ | ⟨x, l, c, zs, hcs, _, hl, hm, hz, _, hcell, hwz⟩
    · simp [Value.cells] at hcs
      obtain ⟨rfl, rfl, rfl⟩ := hcs
      exact ⟨[], .inl ⟨rfl, rfl, rfl, rfl⟩⟩
    · simp [Value.cells] at hcs
      obtain ⟨rfl, rfl, rfl⟩ := hcs
      exact ⟨zs, .inr ⟨_, rfl, hl, hm, by simpa using hz, hcell, hwz⟩⟩
  obtain ⟨a1, len1, cap1, rfl⟩ := okWide_slice Try.underlying38 (hval 1 38 v1 rfl rfl)
  have k1 := h1
  have lt1 : ∀ x ∈ p1, x.block < W.heap.size := by obtain ⟨m, hm⟩ := k1; exact DataW.trod_lt m _ _ _ hm
  obtain ⟨z1, w1⟩ : ∃ zs, IsRow .i64 W a1 len1 cap1 zs := by
    obtain ⟨fuel, hf⟩ := h1
    rcases open_ints Try.underlying38 Try.underlying3 (by kernel_rfl) hf with ⟨hcs, _⟩ | ⟨x, l, c, zs, hcs, _, hl, hm, hz, _, hcell, hwz⟩
    · simp [Value.cells] at hcs
      obtain ⟨rfl, rfl, rfl⟩ := hcs
      exact ⟨[], .inl ⟨rfl, rfl, rfl, rfl⟩⟩
    · simp [Value.cells] at hcs
      obtain ⟨rfl, rfl, rfl⟩ := hcs
      exact ⟨zs, .inr ⟨_, rfl, hl, hm, by simpa using hz, hcell, hwz⟩⟩
  obtain ⟨a2, len2, cap2, rfl⟩ := okWide_slice Try.underlying22 (hval 2 22 v2 rfl rfl)
  have k2 := h2
  have lt2 : ∀ x ∈ p2, x.block < W.heap.size := by obtain ⟨m, hm⟩ := k2; exact DataW.trod_lt m _ _ _ hm
  obtain ⟨z2, w2⟩ : ∃ zs, IsRow .i64 W a2 len2 cap2 zs := by
    obtain ⟨fuel, hf⟩ := h2
    rcases open_ints Try.underlying22 Try.underlying2 (by kernel_rfl) hf with ⟨hcs, _⟩ | ⟨x, l, c, zs, hcs, _, hl, hm, hz, _, hcell, hwz⟩
    · simp [Value.cells] at hcs
      obtain ⟨rfl, rfl, rfl⟩ := hcs
      exact ⟨[], .inl ⟨rfl, rfl, rfl, rfl⟩⟩
    · simp [Value.cells] at hcs
      obtain ⟨rfl, rfl, rfl⟩ := hcs
      exact ⟨zs, .inr ⟨_, rfl, hl, hm, by simpa using hz, hcell, hwz⟩⟩
  obtain ⟨a3, len3, cap3, rfl⟩ := okWide_slice Try.underlying39 (hval 3 39 v3 rfl rfl)
  have k3 := h3
  have lt3 : ∀ x ∈ p3, x.block < W.heap.size := by obtain ⟨m, hm⟩ := k3; exact DataW.trod_lt m _ _ _ hm
  obtain ⟨z3, w3⟩ : ∃ B, IsRowB W a3 len3 cap3 B := by
    obtain ⟨fuel, hf⟩ := h3
    rcases Deep.open_bools Try.underlying39 Try.underlying4 (by kernel_rfl) hf with ⟨hcs, _⟩ | ⟨x, l, c, B, hcs, _, hl, hm, _, hcell⟩
    · simp [Value.cells] at hcs
      obtain ⟨rfl, rfl, rfl⟩ := hcs
      exact ⟨fun _ => false, .inl ⟨rfl, rfl, rfl⟩⟩
    · simp [Value.cells] at hcs
      obtain ⟨rfl, rfl, rfl⟩ := hcs
      exact ⟨B, .inr ⟨_, rfl, hl, hm, hcell⟩⟩
  clear hA0 hval0
  refine (walk a0 a1 a2 a3 len0 cap0 len1 cap1 len2 cap2 len3 cap3 z0 z1 z2 z3 W w0 w1 w2 w3).mono fun e W' ⟨he, bel⟩ => ?_
  subst he
  exact ⟨_, rfl, _, _, _, [], _, [], hW', trodAll_mk1 (shut_bool Try.underlying4 _), (trodAll_cons_mk (Below.trod laidOut (by kernel_rfl) (of_decide_eq_true (by kernel_rfl)) k0 bel lt0) (trodAll_cons_mk (Below.trod laidOut (by kernel_rfl) (of_decide_eq_true (by kernel_rfl)) k1 bel lt1) (trodAll_cons_mk (Below.trod laidOut (by kernel_rfl) (of_decide_eq_true (by kernel_rfl)) k2 bel lt2) (trodAll_cons_mk (Below.trod laidOut (by kernel_rfl) (of_decide_eq_true (by kernel_rfl)) k3 bel lt3) trodAll_mk0)))), rfl, bel.frame _, fun h => by cases h⟩

theorem over : Rows.fnOutstandingReleaseScriptRow.holds Try.pinned (OpenSpec.ofChange Rows.fnOutstandingReleaseScriptSpec) :=
  OpenClaim.holds_of_wide 6 Try.f6 rfl rfl rfl rfl rfl rfl rfl ⟨rfl, rfl, rfl, rfl, rfl⟩ rfl rfl rfl rfl rfl (by kernel_rfl) Try.func6 (by kernel_rfl)
    (of_decide_eq_true (by kernel_rfl)) (by unfold Func.isWrapper; first | (rw [if_pos (by decide +kernel)]; kernel_rfl) | (rw [if_neg (by decide +kernel)]; exact ⟨rfl, rfl⟩))
    (fun os started H enc _ => lifted os started H enc)

/-- The statement. -/
theorem proved : Rows.FnOutstandingReleaseScriptSaid := over
end Go.Proofs.Qxb6003330a.fnOutstandingReleaseScript
