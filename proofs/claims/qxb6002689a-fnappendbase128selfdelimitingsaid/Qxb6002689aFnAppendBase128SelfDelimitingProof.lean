/-
  'Rows.FnAppendBase128SelfDelimitingSaid' proved. The frame is the skeleton tool's, its end in 'Below' (the call appends: its memory is its own); the walk is mine.
-/
import Derived.Test.Qxb6002689aRows
import Derived.WalkKit
import Derived.ProofKit
import Derived.OpenShut
import Derived.ShutString
import Derived.Test.Qxb6002689aEnc
import Derived.Test.Qxb6002689aRead
import Derived.Test.Qxb6002689aCmp
import Derived.Test.Qxb6002689aClone
import Derived.ChangeOld
import Derived.Below
namespace Go.Proofs.Qxb6002689a.fnAppendBase128SelfDelimiting
open Go.ChangeShapes Go.WideShapes Go.ChangeAt Go.RowKit
open Go.ChangeMaps (open_string shut_string)
set_option linter.unusedVariables false

theorem own : ownKnob Try.prog.godebug = none := by kernel_rfl
theorem laidOut : laidOutB Try.prog = true := by kernel_rfl

/-- What the walk is told of a slice of integers that came in: it is nil; or it leads to a row of 'cap' cells, the numbers 'zs' (the first 'len' are its elements), each fitting its kind. -/
def IsRow (k : IntKind) (w : World) (a : Option Addr) (len cap : Nat) (zs : List Int) : Prop :=
  (a = none ∧ len = 0 ∧ cap = 0 ∧ zs = []) ∨
  ∃ x, a = some x ∧ len ≤ cap ∧ cap ≤ maxLen ∧ zs.length = cap ∧ (∀ i, i < zs.length → w.cell? (x.add i) = some (.int k (zs.getD i 0))) ∧ ∀ n ∈ zs, (Lit.int k n).wf = true

/-- The elements, as they are read. -/
theorem isRow_reads {w : World} {a : Option Addr} {len cap : Nat} {zs : List Int} (h : IsRow .u8 w a len cap zs) :
    ∃ xs : List Int, len = xs.length ∧ Reads w a xs ∧ (a = none → xs = []) := by
  rcases h with ⟨rfl, rfl, rfl, rfl⟩ | ⟨x, rfl, h1, h2, h3, h4, h5⟩
  · exact ⟨[], rfl, .inl rfl, fun _ => rfl⟩
  · refine ⟨zs.take len, by simp; omega, ?_, by simp⟩
    rcases Nat.eq_zero_or_pos len with rfl | hl
    · left; simp
    · obtain ⟨b, off, spot⟩ := x
      have hspot : spot = none := by simpa [Addr.add] using World.cell?_spot (h4 0 (by omega))
      subst hspot
      refine .inr ⟨b, off, rfl, fun j hj => ?_⟩
      have hj' : j < len := by simp at hj; omega
      rw [← add_plain, h4 j (by omega)]
      simp [hj']

/-! ### The walk -/
set_option maxRecDepth 1000000 in
theorem bytes_yes (a : Option Addr) (len cap : Nat) (n m : Int) (w : World) (h : len ≤ 1048576) :
    Calls Try.prog 18 #[.slice a len cap, .int .i64 n, .int .i64 m] w fun e w' => e = .returned (.bool true) ∧ w = w' := by
  go_enter Try.func18, Try.ntmps18
  go_wp2
  go_ret
  exact ⟨rfl, rfl⟩
set_option maxRecDepth 1000000 in
theorem bytes_no (a : Option Addr) (len cap : Nat) (n m : Int) (w : World) (h : 1048576 < len) (h2 : len ≤ maxLen) :
    Calls Try.prog 18 #[.slice a len cap, .int .i64 n, .int .i64 m] w fun e w' => e = .returned (.bool false) ∧ w = w' := by
  unfold maxLen at h2
  go_enter Try.func18, Try.ntmps18
  go_wp2
  go_ret
  exact ⟨rfl, rfl⟩

/-- What stands in memory behind the four calls. -/
theorem after {w w1 w2 w3 w4 : World} {vb vo v3 v4 : Value} {xs enc enc2 : List Int} (henc : 0 < enc.length)
    (o1 : w1.ownsRow w.heap.size 5 1 vb xs.length (xs.map (Value.int .u8))) (b1 : Below w.heap.size w w1)
    (o2 : w2.ownsRow w1.heap.size 5 1 vo xs.length (xs.map (Value.int .u8))) (b2 : Below w1.heap.size w1 w2)
    (n3 : Onto w2 w3 vb v3)
    (o4 : w4.ownsRow w.heap.size 5 1 v4 ((xs ++ enc) ++ enc2).length (((xs ++ enc) ++ enc2).map (Value.int .u8))) (n4 : Onto w3 w4 v3 v4) :
    ∃ ao co g4 c4, vo = .slice ao xs.length co ∧ v4 = .slice (some ⟨g4, 0, none⟩) ((xs ++ enc) ++ enc2).length c4 ∧ c4 ≤ maxLen ∧ ((xs ++ enc) ++ enc2).length ≤ c4 ∧
      Reads w4 ao xs ∧ Reads w4 (some ⟨g4, 0, none⟩) ((xs ++ enc) ++ enc2) ∧ Below w.heap.size w w4 ∧ w.heap.size ≤ w4.heap.size := by
  have s1 := b1.size
  have s2 := b2.size
  have n := n3.trans n4
  have s4 := n.1.size
  have k4 := n.keeps o2 (other_block o1 o2)
  obtain ⟨ao, co, e1, r1⟩ := reads_own k4
  obtain ⟨g4, c4, e4, _, _, hc, hm⟩ := ownsRow_some o4 (by simp; omega)
  obtain ⟨a4, c4', e5, r4⟩ := reads_own o4
  rw [e4] at e5
  simp only [Value.slice.injEq] at e5
  obtain ⟨rfl, _, rfl⟩ := e5
  have hb4 : Below w.heap.size w2 w4 := n.below (by omega) (fun k hk => (o1.lt k hk).1)
  exact ⟨ao, co, g4, c4, e1, e4, hm, hc, r1, r4, (b1.trans (b2.mono s1)).trans hb4, by omega⟩

set_option maxHeartbeats 1000000 in
set_option maxRecDepth 1000000 in
theorem walk_in (a0 : Option Addr) (cap0 n m : Nat) (xs : List Int) (w : World) (hl : xs.length ≤ 65536) (hr : Reads w a0 xs) (hnil : a0 = none → xs = []) (hn : n < 9223372036854775808) (hm : m < 9223372036854775808) :
    Calls Try.prog 7 #[.slice a0 xs.length cap0, .int .i64 n, .int .i64 m] w fun e w' => e = .returned (.bool true) ∧ Below w.heap.size w w' := by
  go_enter Try.func7, Try.ntmps7
  have tok1 : True := trivial
  go_wp2_with (first
    | (go_at_call 18; refine (bytes_yes a0 xs.length cap0 n m w (by omega)).mono ?_; rintro e w' ⟨rfl, rfl⟩)
    | (go_at_call 12; have _t := tok1; refine (clone_any xs (by omega) w a0 cap0 hr hnil).mono ?_; rintro e w1 ⟨vb, rfl, o1, b1⟩; clear tok1))
  obtain ⟨ab, cb, hvb, rb⟩ := reads_own o1
  have hnb : ab = none → xs = [] := reads_nil (hvb ▸ o1)
  rw [hvb]
  go_at_call 12
  refine (clone_any xs (by omega) w1 ab cb rb hnb).mono ?_
  rintro e w2 ⟨vo, rfl, o2, b2⟩
  rw [hvb] at o1
  have s1 := b1.size
  have s2 := b2.size
  have o1' := ownsRow_below o1 b2
  have tok2 : True := trivial
  go_wp2_with (go_at_call 16; have _t := tok2; refine (appendBase128_any n hn w2 w.heap.size _ xs (by omega) (by omega) o1').mono ?_; rintro e w3 ⟨v3, k, hk, rfl, o3, n3⟩; clear tok2)
  have s3 := n3.1.size
  have hk9 := hk.le128 hn
  have hk1 := hk.1
  go_at_call 16
  refine (appendBase128_any m hm w3 w.heap.size _ (xs ++ encS n k) (by simp [encS_len]; omega) (by omega) o3).mono ?_
  rintro e w4 ⟨v4, l, hl', rfl, o4, n4⟩
  have hl9 := hl'.le128 hm
  have hlen : ((xs ++ encS n k) ++ encS m l).length ≤ 1000000 := by simp [encS_len]; omega
  obtain ⟨ao, co, g4, c4, hvo, hv4, q2, q3, r1, r4, bel, hsz⟩ := after (by rw [encS_len]; omega) o1 b1 o2 b2 n3 o4 n4
  subst hvo hv4
  have cp := prefix_in xs (encS n k ++ encS m l) (by simp [encS_len]; omega) w4 _ ao ((xs ++ encS n k) ++ encS m l).length c4 co (by rw [List.append_assoc]) (by rw [← List.append_assoc]; exact r4) r1
  have rd1 := fun (w5 : World) (b5 : Below w4.heap.size w4 w5) => readSubid_any n k hn hk w5 w.heap.size _ (xs.length : Int) xs (encS m l) rfl hlen (ownsRow_below o4 b5)
  have rd2 := fun (w5 : World) (b5 : Below w4.heap.size w4 w5) => readSubid_any m l hm hl' w5 w.heap.size _ ((xs ++ encS n k).length : Int) (xs ++ encS n k) [] rfl (by simpa using hlen) (by rw [List.append_nil]; exact ownsRow_below o4 b5)
  obtain ⟨N, hN⟩ : ∃ N, ((xs ++ encS n k) ++ encS m l).length = N := ⟨_, rfl⟩
  obtain ⟨M, hM⟩ : ∃ M, (xs ++ encS n k).length = M := ⟨_, rfl⟩
  rw [hN] at cp
  rw [hN] at q3 hlen
  rw [hN]
  simp only [hM] at rd1 rd2
  simp only [hN] at rd1 rd2
  unfold maxLen at q2
  clear o1 b1 o2 b2 o3 n3 o4 n4 o1' rb hnb s1 s2 s3 hvb hr hnil r1 r4 hN hM
  go_wp2_with (go_at_call 13; refine cp.mono ?_; rintro e w5 ⟨rfl, b5⟩)
  have d1 := rd1 w5 b5
  have d2 := rd2 w5 b5
  clear rd1 rd2 cp
  go_at_call 17
  refine d1.mono ?_
  rintro e w6 ⟨rfl, rfl⟩
  go_wp2_with (go_at_call 17; refine d2.mono ?_; rintro e w7 ⟨rfl, rfl⟩)
  go_ret
  exact ⟨rfl, bel.trans (b5.mono hsz)⟩

set_option maxRecDepth 1000000 in
theorem walk (a0 : Option Addr) (len0 cap0 : Nat) (z0 : List Int) (a1 : Int) (a2 : Int) (w : World) (w0 : IsRow .u8 w a0 len0 cap0 z0) (w1 : (Lit.int .i64 a1).wf = true) (w2 : (Lit.int .i64 a2).wf = true) :
    Calls Try.prog 7 #[.slice a0 len0 cap0, .int .i64 a1, .int .i64 a2] w fun e w' => e = .returned (.bool true) ∧ Below w.heap.size w w' := by
  have hm : len0 ≤ maxLen := by
    rcases w0 with ⟨_, rfl, _⟩ | ⟨x, _, h1, h2, _⟩
    · exact Nat.zero_le _
    · omega
  obtain ⟨xs, rfl, hr, hnil⟩ := isRow_reads w0
  clear w0
  by_cases hbig : 1048576 < xs.length
  · go_enter Try.func7, Try.ntmps7
    go_wp2_with (go_at_call 18; refine (bytes_no a0 xs.length cap0 a1 a2 w hbig hm).mono ?_; rintro e w' ⟨rfl, rfl⟩)
    go_ret
    exact ⟨rfl, Below.refl _ _⟩
  · by_cases hmid : 65536 < xs.length
    · go_enter Try.func7, Try.ntmps7
      go_wp2_with (go_at_call 18; refine (bytes_yes a0 xs.length cap0 a1 a2 w (by omega)).mono ?_; rintro e w' ⟨rfl, rfl⟩)
      go_ret
      exact ⟨rfl, Below.refl _ _⟩
    · by_cases hneg : a1 < 0
      · have hd : decide (a1 < 0) = true := decide_eq_true hneg
        go_enter Try.func7, Try.ntmps7
        go_wp2_with (go_at_call 18; refine (bytes_yes a0 xs.length cap0 a1 a2 w (by omega)).mono ?_; rintro e w' ⟨rfl, rfl⟩)
        go_ret
        exact ⟨rfl, Below.refl _ _⟩
      · by_cases hneg2 : a2 < 0
        · have hd : decide (a1 < 0) = false := decide_eq_false hneg
          go_enter Try.func7, Try.ntmps7
          go_wp2_with (go_at_call 18; refine (bytes_yes a0 xs.length cap0 a1 a2 w (by omega)).mono ?_; rintro e w' ⟨rfl, rfl⟩)
          go_ret
          exact ⟨rfl, Below.refl _ _⟩
        · obtain ⟨n, rfl⟩ : ∃ n : Nat, a1 = n := ⟨a1.toNat, by omega⟩
          obtain ⟨m, rfl⟩ : ∃ m : Nat, a2 = m := ⟨a2.toNat, by omega⟩
          exact walk_in a0 cap0 n m xs w (by omega) hr hnil (i64_lt w1) (i64_lt w2)

/-! ### The row's step (the tool's) -/
set_option maxRecDepth 100000 in
theorem lifted (os : Os) (started : os.Started) (H : Type) (enc : TypeId × Value → H) :
    ReturnsInHanded {} Try.checked os 7 .any (Rows.fnAppendBase128SelfDelimitingSpec.pre6 enc Try.prog Try.f7 Rows.fnAppendBase128SelfDelimitingRow.domain false) (Rows.fnAppendBase128SelfDelimitingSpec.post enc Try.prog Try.f7 false true false false) := by
  refine returnsInHanded_of_change (C := Try.checked) own started (by kernel_rfl) Try.func7
    (ChangeSpec.witness6 (enc := enc) (C := Try.checked) false ⟨#[], #[.slice none 0 0, .int .i64 0, .int .i64 0], []⟩ 8 (by kernel_rfl) (by kernel_rfl) (by kernel_rfl) (by kernel_rfl)) ?_
  intro W base args ds gs before hval0 hW hcnd _
  have hval : ∀ (j : Nat) t v, Try.f7.params[j]? = some t → args[j]? = some v → Value.okWide Try.prog W .any base t v := hval0
  have hW' := hW
  obtain ⟨p, q, hA0, hV, rfl, hfz, hnd⟩ := hW
  have hA : DataW.TrodAll enc Try.prog W 0 (fun _ => true) true Try.f7.params.toList args.toList ds p := hA0
  rw [Try.params7] at hA hval
  obtain ⟨v0, vs0, d0, ds0, p0, q0, hargs, rfl, rfl, h0, r0⟩ := trodAll_cons hA
  obtain ⟨v1, vs1, d1, ds1, p1, q1, rfl, rfl, rfl, h1, r1⟩ := trodAll_cons r0
  obtain ⟨v2, vs2, d2, ds2, p2, q2, rfl, rfl, rfl, h2, r2⟩ := trodAll_cons r1
  obtain ⟨rfl, rfl, rfl⟩ := trodAll_nil r2
  obtain rfl : args = #[v0, v1, v2] := by cases args; simp_all
  obtain ⟨rfl, rfl⟩ := trodVars_none hV
  obtain ⟨a0, len0, cap0, rfl⟩ := okWide_slice Try.underlying22 (hval 0 22 v0 rfl rfl)
  have k0 := h0
  have lt0 : ∀ x ∈ p0, x.block < W.heap.size := by obtain ⟨m, hm⟩ := k0; exact DataW.trod_lt m _ _ _ hm
  obtain ⟨z0, w0⟩ : ∃ zs, IsRow .u8 W a0 len0 cap0 zs := by
    obtain ⟨fuel, hf⟩ := h0
    rcases open_ints Try.underlying22 Try.underlying5 (by kernel_rfl) hf with ⟨hcs, _⟩ | ⟨x, l, c, zs, hcs, _, hl, hm, hz, _, hcell, hwz⟩
    · simp [Value.cells] at hcs
      obtain ⟨rfl, rfl, rfl⟩ := hcs
      exact ⟨[], .inl ⟨rfl, rfl, rfl, rfl⟩⟩
    · simp [Value.cells] at hcs
      obtain ⟨rfl, rfl, rfl⟩ := hcs
      exact ⟨zs, .inr ⟨_, rfl, hl, hm, by simpa using hz, hcell, hwz⟩⟩
  obtain ⟨a1, rfl, rfl, rfl, w1⟩ := open_int Try.underlying3 (hval 1 3 v1 rfl rfl) h1
  obtain ⟨a2, rfl, rfl, rfl, w2⟩ := open_int Try.underlying3 (hval 2 3 v2 rfl rfl) h2
  clear hA0 hval0
  refine (walk a0 len0 cap0 z0 a1 a2 W w0 w1 w2).mono fun e W' ⟨he, bel⟩ => ?_
  subst he
  exact ⟨_, rfl, _, _, _, [], _, [], hW', trodAll_mk1 (shut_bool Try.underlying4 _), (trodAll_cons_mk (Below.trod laidOut (by kernel_rfl) (of_decide_eq_true (by kernel_rfl)) k0 bel lt0) (trodAll_cons_mk (shut_int Try.underlying3 w1) (trodAll_cons_mk (shut_int Try.underlying3 w2) trodAll_mk0))), rfl, bel.frame _, fun h => by cases h⟩

theorem over : Rows.fnAppendBase128SelfDelimitingRow.holds Try.pinned (OpenSpec.ofChange Rows.fnAppendBase128SelfDelimitingSpec) :=
  OpenClaim.holds_of_wide 7 Try.f7 rfl rfl rfl rfl rfl rfl rfl ⟨rfl, rfl, rfl, rfl, rfl⟩ rfl rfl rfl rfl rfl (by kernel_rfl) Try.func7 (by kernel_rfl)
    (of_decide_eq_true (by kernel_rfl)) (by unfold Func.isWrapper; first | (rw [if_pos (by decide +kernel)]; kernel_rfl) | (rw [if_neg (by decide +kernel)]; exact ⟨rfl, rfl⟩))
    (fun os started H enc _ => lifted os started H enc)

/-- The statement. -/
theorem proved : Rows.FnAppendBase128SelfDelimitingSaid := over
end Go.Proofs.Qxb6002689a.fnAppendBase128SelfDelimiting
