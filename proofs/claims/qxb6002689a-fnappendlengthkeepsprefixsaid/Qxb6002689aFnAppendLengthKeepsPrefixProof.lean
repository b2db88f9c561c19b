/-
  'Rows.FnAppendLengthKeepsPrefixSaid' proved. The frame is the skeleton tool's, its end in 'Below' (the call appends: its memory is its own); the walk is mine.
-/
import Derived.Test.Qxb6002689aRows
import Derived.WalkKit
import Derived.ProofKit
import Derived.OpenShut
import Derived.ShutString
import Derived.Test.Qxb6002689aEnc
import Derived.Test.Qxb6002689aCmp
import Derived.Test.Qxb6002689aClone
import Derived.ChangeOld
import Derived.Below
namespace Go.Proofs.Qxb6002689a.fnAppendLengthKeepsPrefix
open Go.ChangeShapes Go.WideShapes Go.ChangeAt Go.RowKit
open Go.ChangeMaps (open_string shut_string)
set_option linter.unusedVariables false

theorem own : ownKnob Try.prog.godebug = none := by kernel_rfl
theorem laidOut : laidOutB Try.prog = true := by kernel_rfl

/-- What the walk is told of a slice of integers that came in: it is nil; or it leads to a row of 'cap' cells, the numbers 'zs' (the first 'len' are its elements), each fitting its kind. -/
def IsRow (k : IntKind) (w : World) (a : Option Addr) (len cap : Nat) (zs : List Int) : Prop :=
  (a = none ∧ len = 0 ∧ cap = 0 ∧ zs = []) ∨
  ∃ x, a = some x ∧ len ≤ cap ∧ cap ≤ maxLen ∧ zs.length = cap ∧ (∀ i, i < zs.length → w.cell? (x.add i) = some (.int k (zs.getD i 0))) ∧ ∀ n ∈ zs, (Lit.int k n).wf = true

/-- The elements, as they are read. -/
theorem isRow_reads {w : World} {a : Option Addr} {len cap : Nat} {zs : List Int} (h : IsRow .u8 w a len cap zs) :
    ∃ xs : List Int, len = xs.length ∧ Reads w a xs ∧ (a = none → xs = []) := by
  rcases h with ⟨rfl, rfl, rfl, rfl⟩ | ⟨x, rfl, h1, h2, h3, h4, h5⟩
  · exact ⟨[], rfl, .inl rfl, fun _ => rfl⟩
  · refine ⟨zs.take len, by simp; omega, ?_, by simp⟩
    rcases Nat.eq_zero_or_pos len with rfl | hl
    · left; simp
    · obtain ⟨b, off, spot⟩ := x
      have hspot : spot = none := by simpa [Addr.add] using World.cell?_spot (h4 0 (by omega))
      subst hspot
      refine .inr ⟨b, off, rfl, fun j hj => ?_⟩
      have hj' : j < len := by simp at hj; omega
      rw [← add_plain, h4 j (by omega)]
      simp [hj']

/-! ### The walk -/
set_option maxRecDepth 1000000 in
theorem bytes_yes (a : Option Addr) (len cap : Nat) (n : Int) (w : World) (h : len ≤ 1048576) :
    Calls Try.prog 11 #[.slice a len cap, .int .i64 n] w fun e w' => e = .returned (.bool true) ∧ w = w' := by
  go_enter Try.func11, Try.ntmps11
  go_wp2
  go_ret
  exact ⟨rfl, rfl⟩
set_option maxRecDepth 1000000 in
theorem bytes_no (a : Option Addr) (len cap : Nat) (n : Int) (w : World) (h : 1048576 < len) (h2 : len ≤ maxLen) :
    Calls Try.prog 11 #[.slice a len cap, .int .i64 n] w fun e w' => e = .returned (.bool false) ∧ w = w' := by
  unfold maxLen at h2
  go_enter Try.func11, Try.ntmps11
  go_wp2
  go_ret
  exact ⟨rfl, rfl⟩

/-- What stands in memory behind the four calls. -/
theorem after {w w1 w2 w3 w4 : World} {vb vo v3 v4 : Value} {xs enc : List Int} (henc : 0 < enc.length)
    (o1 : w1.ownsRow w.heap.size 5 1 vb xs.length (xs.map (Value.int .u8))) (b1 : Below w.heap.size w w1)
    (o2 : w2.ownsRow w1.heap.size 5 1 vo xs.length (xs.map (Value.int .u8))) (b2 : Below w1.heap.size w1 w2)
    (o3 : w3.ownsRow w.heap.size 5 1 v3 (xs ++ enc).length ((xs ++ enc).map (Value.int .u8))) (n3 : Onto w2 w3 vb v3)
    (o4 : w4.ownsRow w.heap.size 5 1 v4 ([] ++ enc).length (([] ++ enc).map (Value.int .u8))) (n4 : Onto w3 w4 (.slice none 0 0) v4) :
    ∃ ao co g3 c3 a4 c4, vo = .slice ao xs.length co ∧ v3 = .slice (some ⟨g3, 0, none⟩) (xs.length + enc.length) c3 ∧ v4 = .slice a4 enc.length c4 ∧ xs.length < c3 ∧ c3 ≤ maxLen ∧ xs.length + enc.length ≤ c3 ∧
      Reads w4 ao xs ∧ Reads w4 (some ⟨g3, 0, none⟩) (xs ++ enc) ∧ Reads w4 (some ⟨g3, xs.length, none⟩) enc ∧ Reads w4 a4 enc ∧ Below w.heap.size w w4 ∧ w.heap.size ≤ w4.heap.size := by
  simp only [List.nil_append] at o4
  have s1 := b1.size
  have s2 := b2.size
  have s3 := n3.1.size
  have s4 := n4.1.size
  have k3 := n3.keeps o2 (other_block o1 o2)
  have k4 := n4.keeps k3 (by cases vo.ownBlock <;> simp [Value.ownBlock])
  have k5 := n4.keeps o3 (by cases v3.ownBlock <;> simp [Value.ownBlock])
  obtain ⟨ao, co, e1, r1⟩ := reads_own k4
  obtain ⟨a4, c4, e2, r2⟩ := reads_own o4
  obtain ⟨g3, c3, e3, _, _, hc, hm⟩ := ownsRow_some k5 (by simp; omega)
  obtain ⟨a3, c3', e4, r3⟩ := reads_own k5
  rw [e3] at e4
  simp only [Value.slice.injEq] at e4
  obtain ⟨rfl, _, rfl⟩ := e4
  have hb3 : Below w.heap.size w2 w3 := n3.below (by omega) (fun k hk => (o1.lt k hk).1)
  have hb4 : Below w.heap.size w3 w4 := n4.below (by omega) (by simp [Value.ownBlock])
  simp only [List.length_append] at e3 hc
  exact ⟨ao, co, g3, c3, a4, c4, e1, e3, e2, by omega, hm, hc, r1, r3, reads_tail r3, r2, ((b1.trans (b2.mono s1)).trans hb3).trans hb4, by omega⟩

set_option maxHeartbeats 1000000 in
set_option maxRecDepth 1000000 in
theorem walk_in (a0 : Option Addr) (cap0 n : Nat) (xs : List Int) (w : World) (hl : xs.length ≤ 65536) (hr : Reads w a0 xs) (hnil : a0 = none → xs = []) (hn : n < 9223372036854775808) :
    Calls Try.prog 4 #[.slice a0 xs.length cap0, .int .i64 n] w fun e w' => e = .returned (.bool true) ∧ Below w.heap.size w w' := by
  go_enter Try.func4, Try.ntmps4
  have tok1 : True := trivial
  go_wp2_with (first
    | (go_at_call 11; refine (bytes_yes a0 xs.length cap0 n w (by omega)).mono ?_; rintro e w' ⟨rfl, rfl⟩)
    | (go_at_call 12; have _t := tok1; refine (clone_any xs (by omega) w a0 cap0 hr hnil).mono ?_; rintro e w1 ⟨vb, rfl, o1, b1⟩; clear tok1))
  obtain ⟨ab, cb, hvb, rb⟩ := reads_own o1
  have hnb : ab = none → xs = [] := reads_nil (hvb ▸ o1)
  rw [hvb]
  go_at_call 12
  refine (clone_any xs (by omega) w1 ab cb rb hnb).mono ?_
  rintro e w2 ⟨vo, rfl, o2, b2⟩
  rw [hvb] at o1
  have s1 := b1.size
  have s2 := b2.size
  have o1' := ownsRow_below o1 b2
  have tok2 : True := trivial
  go_wp2_with (go_at_call 9; have _t := tok2; refine (appendLength_any n hn w2 w.heap.size _ xs (by omega) (by omega) o1').mono ?_; rintro e w3 ⟨v3, k, hk, rfl, o3, n3⟩; clear tok2)
  have s3 := n3.1.size
  go_at_call 9
  refine (appendLength_any n hn w3 w.heap.size (.slice none 0 0) [] (by simp) (by omega) (World.ownsRow_nil _ _ _ _)).mono ?_
  rintro e w4 ⟨v4, k', hk', rfl, o4, n4⟩
  obtain rfl := hk.uniq hk'
  have he : 0 < (encL n k).length := by rw [encL_len]; split <;> omega
  have he2 : (encL n k).length ≤ 9 := by have := hk.le256 hn; rw [encL_len]; split <;> omega
  obtain ⟨ao, co, g3, c3, a4, c4, hvo, hv3, hv4, q1, q2, q3, r1, r3, r3', r4, bel, hsz⟩ := after he o1 b1 o2 b2 o3 n3 o4 n4
  unfold maxLen at q2
  clear o1 b1 o2 b2 o3 n3 o4 n4 o1' rb hnb hk' s1 s2 s3 hvb hr hnil
  subst hvo hv3 hv4
  have cp := prefix_in xs (encL n k) (by omega) w4 _ ao (xs.length + (encL n k).length) c3 co (by simp) r3 r1
  go_wp2_with (go_at_call 13; refine cp.mono ?_; rintro e w5 ⟨rfl, b5⟩)
  go_at_call 14
  refine (equal_in (encL n k) (by omega) w5 _ a4 _ c4 (r3'.later (b5.mono (Nat.le_refl _))) (r4.later (b5.mono (Nat.le_refl _)))).mono ?_
  rintro e w6 ⟨rfl, b6⟩
  go_wp2
  go_ret
  have s5 := b5.size
  exact ⟨rfl, (bel.trans (b5.mono hsz)).trans (b6.mono (by omega))⟩

set_option maxRecDepth 1000000 in
theorem walk (a0 : Option Addr) (len0 cap0 : Nat) (z0 : List Int) (a1 : Int) (w : World) (w0 : IsRow .u8 w a0 len0 cap0 z0) (w1 : (Lit.int .i64 a1).wf = true) :
    Calls Try.prog 4 #[.slice a0 len0 cap0, .int .i64 a1] w fun e w' => e = .returned (.bool true) ∧ Below w.heap.size w w' := by
  have hm : len0 ≤ maxLen := by
    rcases w0 with ⟨_, rfl, _⟩ | ⟨x, _, h1, h2, _⟩
    · exact Nat.zero_le _
    · omega
  obtain ⟨xs, rfl, hr, hnil⟩ := isRow_reads w0
  clear w0
  by_cases hbig : 1048576 < xs.length
  · go_enter Try.func4, Try.ntmps4
    go_wp2_with (go_at_call 11; refine (bytes_no a0 xs.length cap0 a1 w hbig hm).mono ?_; rintro e w' ⟨rfl, rfl⟩)
    go_ret
    exact ⟨rfl, Below.refl _ _⟩
  · by_cases hmid : 65536 < xs.length
    · go_enter Try.func4, Try.ntmps4
      go_wp2_with (go_at_call 11; refine (bytes_yes a0 xs.length cap0 a1 w (by omega)).mono ?_; rintro e w' ⟨rfl, rfl⟩)
      go_ret
      exact ⟨rfl, Below.refl _ _⟩
    · by_cases hneg : a1 < 0
      · go_enter Try.func4, Try.ntmps4
        go_wp2_with (go_at_call 11; refine (bytes_yes a0 xs.length cap0 a1 w (by omega)).mono ?_; rintro e w' ⟨rfl, rfl⟩)
        go_ret
        exact ⟨rfl, Below.refl _ _⟩
      · obtain ⟨n, rfl⟩ : ∃ n : Nat, a1 = n := ⟨a1.toNat, by omega⟩
        exact walk_in a0 cap0 n xs w (by omega) hr hnil (i64_lt w1)

/-! ### The row's step (the tool's) -/
set_option maxRecDepth 100000 in
theorem lifted (os : Os) (started : os.Started) (H : Type) (enc : TypeId × Value → H) :
    ReturnsInHanded {} Try.checked os 4 .any (Rows.fnAppendLengthKeepsPrefixSpec.pre6 enc Try.prog Try.f4 Rows.fnAppendLengthKeepsPrefixRow.domain false) (Rows.fnAppendLengthKeepsPrefixSpec.post enc Try.prog Try.f4 false true false false) := by
  refine returnsInHanded_of_change (C := Try.checked) own started (by kernel_rfl) Try.func4
    (ChangeSpec.witness6 (enc := enc) (C := Try.checked) false ⟨#[], #[.slice none 0 0, .int .i64 0], []⟩ 8 (by kernel_rfl) (by kernel_rfl) (by kernel_rfl) (by kernel_rfl)) ?_
  intro W base args ds gs before hval0 hW hcnd _
  have hval : ∀ (j : Nat) t v, Try.f4.params[j]? = some t → args[j]? = some v → Value.okWide Try.prog W .any base t v := hval0
  have hW' := hW
  obtain ⟨p, q, hA0, hV, rfl, hfz, hnd⟩ := hW
  have hA : DataW.TrodAll enc Try.prog W 0 (fun _ => true) true Try.f4.params.toList args.toList ds p := hA0
  rw [Try.params4] at hA hval
  obtain ⟨v0, vs0, d0, ds0, p0, q0, hargs, rfl, rfl, h0, r0⟩ := trodAll_cons hA
  obtain ⟨v1, vs1, d1, ds1, p1, q1, rfl, rfl, rfl, h1, r1⟩ := trodAll_cons r0
  obtain ⟨rfl, rfl, rfl⟩ := trodAll_nil r1
  obtain rfl : args = #[v0, v1] := by cases args; simp_all
  obtain ⟨rfl, rfl⟩ := trodVars_none hV
  obtain ⟨a0, len0, cap0, rfl⟩ := okWide_slice Try.underlying22 (hval 0 22 v0 rfl rfl)
  have k0 := h0
  have lt0 : ∀ x ∈ p0, x.block < W.heap.size := by obtain ⟨m, hm⟩ := k0; exact DataW.trod_lt m _ _ _ hm
  obtain ⟨z0, w0⟩ : ∃ zs, IsRow .u8 W a0 len0 cap0 zs := by
    obtain ⟨fuel, hf⟩ := h0
    rcases open_ints Try.underlying22 Try.underlying5 (by kernel_rfl) hf with ⟨hcs, _⟩ | ⟨x, l, c, zs, hcs, _, hl, hm, hz, _, hcell, hwz⟩
    · simp [Value.cells] at hcs
      obtain ⟨rfl, rfl, rfl⟩ := hcs
      exact ⟨[], .inl ⟨rfl, rfl, rfl, rfl⟩⟩
    · simp [Value.cells] at hcs
      obtain ⟨rfl, rfl, rfl⟩ := hcs
      exact ⟨zs, .inr ⟨_, rfl, hl, hm, by simpa using hz, hcell, hwz⟩⟩
  obtain ⟨a1, rfl, rfl, rfl, w1⟩ := open_int Try.underlying3 (hval 1 3 v1 rfl rfl) h1
  clear hA0 hval0
  refine (walk a0 len0 cap0 z0 a1 W w0 w1).mono fun e W' ⟨he, bel⟩ => ?_
  subst he
  exact ⟨_, rfl, _, _, _, [], _, [], hW', trodAll_mk1 (shut_bool Try.underlying4 _), (trodAll_cons_mk (Below.trod laidOut (by kernel_rfl) (of_decide_eq_true (by kernel_rfl)) k0 bel lt0) (trodAll_cons_mk (shut_int Try.underlying3 w1) trodAll_mk0)), rfl, bel.frame _, fun h => by cases h⟩

theorem over : Rows.fnAppendLengthKeepsPrefixRow.holds Try.pinned (OpenSpec.ofChange Rows.fnAppendLengthKeepsPrefixSpec) :=
  OpenClaim.holds_of_wide 4 Try.f4 rfl rfl rfl rfl rfl rfl rfl ⟨rfl, rfl, rfl, rfl, rfl⟩ rfl rfl rfl rfl rfl (by kernel_rfl) Try.func4 (by kernel_rfl)
    (of_decide_eq_true (by kernel_rfl)) (by unfold Func.isWrapper; first | (rw [if_pos (by decide +kernel)]; kernel_rfl) | (rw [if_neg (by decide +kernel)]; exact ⟨rfl, rfl⟩))
    (fun os started H enc _ => lifted os started H enc)

/-- The statement. -/
theorem proved : Rows.FnAppendLengthKeepsPrefixSaid := over
end Go.Proofs.Qxb6002689a.fnAppendLengthKeepsPrefix
