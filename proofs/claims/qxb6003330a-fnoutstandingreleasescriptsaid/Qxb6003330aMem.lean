/-
  The walks of cloneInt64s, holdingsOf, (Grantee).outstanding and their callers, by contracts.
-/
import Derived.Test.Qxb6003330aRows
import Derived.Test.Qxb6003330aMath
import Derived.WalkKit
import Derived.WalkSpells
import Derived.WalkSmall
namespace Go.Proofs.Qxb6003330a
open Go.RowKit

theorem Try.info2 : (Try.prog.info? 2).map (fun i => (i.zero, i.size, i.bytes)) = some (some (.int .i64 0), 1, 8) := by kernel_rfl
theorem Try.info31 : (Try.prog.info? 31).map (fun i => (i.zero, i.size, i.bytes)) = some (some (.agg #[.int .i64 0, .int .i64 0, .int .i64 0, .int .i64 0]), 4, 32) := by kernel_rfl

/-- A row that is not empty: its value, written out. -/
theorem ownsRow_some {w : World} {base : Nat} {e : TypeId} {size : Nat} {v : Value} {n : Nat} {xs : List Value} (h : w.ownsRow base e size v n xs) (hn : 0 < n) :
    ∃ g cap, v = .slice (some ⟨g, 0, none⟩) n cap ∧ base ≤ g ∧ g < w.heap.size ∧ n ≤ cap ∧ cap ≤ maxLen := by
  rcases h.2 with ⟨_, h0⟩ | ⟨g, cap, cur, hv, hb, hg, hc, hm, _⟩
  · omega
  · exact ⟨g, cap, hv, hb, (Array.getElem?_eq_some_iff.1 hg).1, hc, hm⟩

/-- What is owned stays owned where all old blocks stay. -/
theorem ownsRow_below {w w' : World} {u : Value} {base : Nat} {e : TypeId} {size n : Nat} {xs : List Value} (hu : w.ownsRow base e size u n xs) (h : Below w.heap.size w w') : w'.ownsRow base e size u n xs :=
  hu.kept (row := none) ⟨h.os, h.tape, h.output, h.size, fun k hk _ => h.block k hk⟩ (by cases u.ownBlock <;> simp)

theorem i64_bd {n : Int} (h : (Lit.int .i64 n).wf = true) : -9223372036854775808 ≤ n ∧ n ≤ 9223372036854775807 := by
  simp [Lit.wf, IntKind.min, IntKind.max, IntKind.signed, IntKind.bits] at h; omega

theorem ownsRow_mono {w : World} {B B' : Nat} {e : TypeId} {size n : Nat} {v : Value} {xs : List Value} (h : w.ownsRow B e size v n xs) (hB : B' ≤ B) : w.ownsRow B' e size v n xs := by
  refine ⟨h.1, ?_⟩
  rcases h.2 with h2 | ⟨g, cap, cur, hv, hg, r⟩
  · exact .inl h2
  · exact .inr ⟨g, cap, cur, hv, by omega, r⟩

/-- What is read behind an address: the numbers xs. -/
def Reads (w : World) (a : Option Addr) (xs : List Int) : Prop :=
  xs = [] ∨ ∃ g off, a = some ⟨g, off, none⟩ ∧ ∀ j, j < xs.length → w.cell? ⟨g, off + j, none⟩ = some (.int .i64 (xs.getD j 0))

theorem Reads.later {w w' : World} {a : Option Addr} {xs : List Int} (h : Reads w a xs) (hb : Below w.heap.size w w') : Reads w' a xs := by
  rcases h with h | ⟨g, off, rfl, h⟩
  · exact .inl h
  · exact .inr ⟨g, off, rfl, fun j hj => cell_later hb (h j hj)⟩

/-- A row of the call's own, read: its value and its numbers. -/
theorem reads_own {w : World} {base n : Nat} {v : Value} {xs : List Int} (h : w.ownsRow base 2 1 v n (xs.map (Value.int .i64))) :
    ∃ a c, v = .slice a xs.length c ∧ Reads w a xs := by
  have hl : n = xs.length := by have := h.1; simpa using this.symm
  subst hl
  rcases h.2 with ⟨rfl, h0⟩ | ⟨g, cap, cur, rfl, _⟩
  · exact ⟨none, 0, by rw [h0], .inl (List.eq_nil_of_length_eq_zero h0)⟩
  · refine ⟨_, cap, rfl, .inr ⟨g, 0, rfl, fun j hj => ?_⟩⟩
    rw [Nat.zero_add, h.cellAt j (by omega), List.getElem?_map, List.getElem?_eq_getElem hj]
    simp [hj]

/-- The same, of the value as it is read. -/
theorem reads_nil {w : World} {base n : Nat} {a : Option Addr} {m c : Nat} {xs : List Int} (h : w.ownsRow base 2 1 (.slice a m c) n (xs.map (Value.int .i64))) : a = none → xs = [] := by
  intro ha
  subst ha
  have hl : n = xs.length := by have := h.1; simpa using this.symm
  rcases h.2 with ⟨_, h0⟩ | ⟨g, cap, cur, hv, _⟩
  · exact List.eq_nil_of_length_eq_zero (by omega)
  · simp at hv

/-- The first k numbers of zs are those of xs. -/
def Agree (zs xs : List Int) (k : Nat) : Prop := zs.length = xs.length ∧ ∀ j, j < k → zs.getD j 0 = xs.getD j 0
theorem Agree.step {zs xs : List Int} {k : Nat} (h : Agree zs xs k) (hk : k < xs.length) : Agree (zs.set k (xs.getD k 0)) xs (k + 1) := by
  refine ⟨by simpa using h.1, fun j hj => ?_⟩
  have hl := h.1
  by_cases e : j = k
  · subst e
    simp [List.getD_eq_getElem?_getD, hl, hk]
  · rw [← h.2 j (by omega)]
    simp [List.getD_eq_getElem?_getD, Ne.symm e]
theorem Agree.all {zs xs : List Int} (h : Agree zs xs xs.length) : zs = xs := by
  apply List.ext_getElem h.1
  intro j h1 h2
  have := h.2 j h2
  simpa [List.getD_eq_getElem?_getD, List.getElem?_eq_getElem h1, List.getElem?_eq_getElem h2] using this

theorem clone_nil (w : World) (cap : Nat) :
    Calls Try.prog 9 #[.slice none 0 cap] w fun e w' => e = .returned (.slice none 0 0) ∧ w' = w := by
  have q22 : ∀ (w : World) (a : Option Addr) (n c n' c' : Nat), (binOp .eql 22 (.slice a n c) (.slice none n' c')).run Try.prog w = .ok (.bool a.isNone) w := fun w a n c n' c' => Lib.run_eql_slice_nil w _ _ a n c n' c' Try.underlying22
  go_enter Try.func9, Try.ntmps9
  go_wp2
  go_ret
  exact ⟨rfl, rfl⟩

set_option maxHeartbeats 1000000 in
set_option maxRecDepth 1000000 in
theorem clone_some (xs : List Int) (hxs : xs.length ≤ 100000) (w : World) (ad : Addr) (cap : Nat) (hr : Reads w (some ad) xs) :
    Calls Try.prog 9 #[.slice (some ad) xs.length cap] w fun e w' => ∃ v', e = .returned v' ∧ w'.ownsRow w.heap.size 2 1 v' xs.length (xs.map (Value.int .i64)) ∧ Below w.heap.size w w' := by
  have q22 : ∀ (w : World) (a : Option Addr) (n c n' c' : Nat), (binOp .eql 22 (.slice a n c) (.slice none n' c')).run Try.prog w = .ok (.bool a.isNone) w := fun w a n c n' c' => Lib.run_eql_slice_nil w _ _ a n c n' c' Try.underlying22
  obtain ⟨i0, hi, hz0, hz1, hz2⟩ := info_parts Try.info2
  go_enter Try.func9, Try.ntmps9
  go_wp2_with (at_make; refine wpList_make_full _ rfl _ _ 22 rfl w.heap.size 2 i0 (.int .i64 0) 1 Try.underlying22 hi hz0 hz1 _ _ _ _ xs.length rfl rfl rfl rfl (by rw [hz2]; omega) (by unfold maxLen; omega) (Nat.le_refl _) ?_)
  intro w1 hown hgr
  have hown' : w1.ownsRow w.heap.size 2 1 (.slice (some ⟨w.heap.size, 0, none⟩) xs.length xs.length) xs.length ((List.replicate xs.length (0 : Int)).map (Value.int .i64)) := by
    simpa [Value.cells, toList_madeCells_one] using hown
  have hbel : Below w.heap.size w w1 := (Below.refl _ _).grown hgr (Nat.le_refl _) (by simp)
  clear hown hgr
  go_wp2
  go_loopw [4] (fun i wr => ∃ k : Nat, ∃ zs : List Int, k ≤ xs.length ∧ i = .int .i64 k ∧ wr.ownsRow w.heap.size 2 1 (.slice (some ⟨w.heap.size, 0, none⟩) xs.length xs.length) xs.length (zs.map (Value.int .i64)) ∧ Below w.heap.size w wr ∧ Hid (Agree zs xs k))
    (fun i _ => xs.length - (intOf i).toNat)
  case atStart => exact ⟨0, List.replicate xs.length 0, by omega, rfl, hown', hbel, ⟨by simp, fun j hj => by omega⟩⟩
  case round =>
    obtain ⟨k, zs, hk, rfl, hownr, hbelr, hag⟩ := hrel
    by_cases hlt : k < xs.length
    · rcases hr with h | ⟨g, off, e, hr⟩
      · subst h; simp at hlt
      obtain rfl : ad = ⟨g, off, none⟩ := by simpa using e
      have c1 := cell_later hbelr (hr k hlt)
      have c2 : wr.cell? ⟨w.heap.size, k, none⟩ = some (.int .i64 (zs.getD k 0)) := by
        rw [hownr.cellAt k (by omega), List.getElem?_map]
        have : k < zs.length := by rw [hag.out.1]; exact hlt
        simp [this]
      have f2 := hownr.frozenAt k
      have hst := hownr.stored k (.int .i64 (xs.getD k 0))
      have hst1 : (wr.setCell ⟨w.heap.size, k, none⟩ (.int .i64 (xs.getD k 0))).ownsRow w.heap.size 2 1 (.slice (some ⟨w.heap.size, 0, none⟩) xs.length xs.length) xs.length ((zs.set k (xs.getD k 0)).map (Value.int .i64)) := by
        rw [List.map_set]; exact hst.1
      have hb2 : Below w.heap.size w (wr.setCell ⟨w.heap.size, k, none⟩ (.int .i64 (xs.getD k 0))) := hbelr.setCell (Nat.le_refl _) _
      have hag2 : Hid (Agree (zs.set k (xs.getD k 0)) xs (k + 1)) := hag.out.step hlt
      obtain ⟨x, hx⟩ : ∃ x, xs.getD k 0 = x := ⟨_, rfl⟩
      obtain ⟨y, hy⟩ : ∃ y, zs.getD k 0 = y := ⟨_, rfl⟩
      rw [hx] at c1 hst1 hb2 hag2
      rw [hy] at c2
      clear hr hst hx hy e hag hownr hbelr hbel hown'
      go_wp2
      go_roundw
      case rel => exact ⟨k + 1, zs.set k x, by omega, by go_num, hst1, hb2, hag2⟩
      case measure => simp [intOf]; omega
    · obtain rfl : k = xs.length := by omega
      have e : zs = xs := hag.out.all
      subst e
      go_wp2
      go_ret
      exact ⟨_, rfl, hownr, hbelr⟩

/-- cloneInt64s: a new row with the same numbers; nil stays nil. -/
theorem clone_any (xs : List Int) (hxs : xs.length ≤ 100000) (w : World) (a : Option Addr) (cap : Nat) (hr : Reads w a xs) (hn : a = none → xs = []) :
    Calls Try.prog 9 #[.slice a xs.length cap] w fun e w' => ∃ v', e = .returned v' ∧ w'.ownsRow w.heap.size 2 1 v' xs.length (xs.map (Value.int .i64)) ∧ Below w.heap.size w w' := by
  cases a with
  | some ad => exact clone_some xs hxs w ad cap hr
  | none =>
    obtain rfl := hn rfl
    refine (clone_nil w cap).mono ?_
    rintro e w' ⟨rfl, rfl⟩
    exact ⟨_, rfl, World.ownsRow_nil _ _ _ _, Below.refl _ _⟩


end Go.Proofs.Qxb6003330a
