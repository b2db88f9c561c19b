/-
  The walks of holdingsOf and (Grantee).outstanding, by contracts.
-/
import Derived.Test.Qxb6003330aMem
namespace Go.Proofs.Qxb6003330a
open Go.RowKit

theorem made4 (n : Nat) : (madeCells #[Value.int .i64 0, .int .i64 0, .int .i64 0, .int .i64 0] n).toList = (List.replicate n (0 : Int)).map (Value.int .i64) := by
  apply List.ext_getElem?
  intro j
  by_cases hj : j < n
  · have : j % 4 = 0 ∨ j % 4 = 1 ∨ j % 4 = 2 ∨ j % 4 = 3 := by omega
    rcases this with h | h | h | h <;> simp [madeCells, hj, h]
  · simp [madeCells, hj]

/-- A row of n holdings: zs holds four numbers each. -/
def Hold (w : World) (base g n : Nat) (zs : List Int) : Prop :=
  zs.length = 4 * n ∧ w.ownsRow base 31 4 (.slice (some ⟨g, 0, none⟩) n n) n (zs.map (Value.int .i64))

theorem Hold.cell {w : World} {base g n : Nat} {zs : List Int} (h : Hold w base g n zs) (j : Nat) (hj : j < 4 * n) : w.cell? ⟨g, j, none⟩ = some (.int .i64 (zs.getD j 0)) := by
  rw [h.2.cellAt j (by omega), List.getElem?_map]
  have : j < zs.length := by rw [h.1]; exact hj
  simp [this]
theorem Hold.frozen {w : World} {base g n : Nat} {zs : List Int} (h : Hold w base g n zs) (j : Nat) : w.frozen? ⟨g, j, none⟩ = false := h.2.frozenAt j
theorem Hold.set {w : World} {base g n : Nat} {zs : List Int} (h : Hold w base g n zs) (j : Nat) (x : Int) : Hold (w.setCell ⟨g, j, none⟩ (.int .i64 x)) base g n (zs.set j x) := by
  refine ⟨by simpa using h.1, ?_⟩
  rw [List.map_set]
  exact (h.2.stored j _).1

set_option maxHeartbeats 1000000 in
set_option maxRecDepth 1000000 in
theorem holdings_any (xs : List Int) (hxs : xs.length ≤ 100000) (w : World) (a : Option Addr) (cap : Nat) (hr : Reads w a xs) :
    Calls Try.prog 14 #[.slice a xs.length cap] w fun e w' => ∃ zs, e = .returned (.slice (some ⟨w.heap.size, 0, none⟩) xs.length xs.length) ∧ Hold w' w.heap.size w.heap.size xs.length zs ∧ (∀ i, i < xs.length → outs zs i = xs.getD i 0) ∧ Below w.heap.size w w' := by
  obtain ⟨i0, hi, hz0, hz1, hz2⟩ := info_parts Try.info31
  go_enter Try.func14, Try.ntmps14
  go_wp2_with (at_make; refine wpList_make_full _ rfl _ _ 29 rfl w.heap.size 31 i0 _ 4 Try.underlying29 hi hz0 hz1 _ _ _ _ xs.length rfl rfl rfl rfl (by rw [hz2]; omega) (by unfold maxLen; omega) (Nat.le_refl _) ?_)
  intro w1 hown hgr
  have hold : Hold w1 w.heap.size w.heap.size xs.length (List.replicate (xs.length * 4) 0) := by
    refine ⟨by simp; omega, ?_⟩
    rw [← made4]
    simpa [Value.cells] using hown
  have hbel : Below w.heap.size w w1 := (Below.refl _ _).grown hgr (Nat.le_refl _) (by simp)
  clear hown hgr
  go_wp2
  go_loopw [4] (fun i wr => ∃ k : Nat, ∃ zs : List Int, k ≤ xs.length ∧ i = .int .i64 k ∧ Hold wr w.heap.size w.heap.size xs.length zs ∧ Below w.heap.size w wr ∧ Hid (∀ j, j < k → outs zs j = xs.getD j 0))
    (fun i _ => xs.length - (intOf i).toNat)
  case atStart => exact ⟨0, _, by omega, rfl, hold, hbel, fun j hj => by omega⟩
  case round =>
    obtain ⟨k, zs, hk, rfl, holdr, hbelr, hag⟩ := hrel
    by_cases hlt : k < xs.length
    · rcases hr with h | ⟨g, off, e, hr⟩
      · subst h; simp at hlt
      obtain rfl : a = some ⟨g, off, none⟩ := e
      have c1 := cell_later hbelr (hr k hlt)
      obtain ⟨x, hx⟩ : ∃ x, xs.getD k 0 = x := ⟨_, rfl⟩
      rw [hx] at c1
      have d0 := holdr.cell (k * 4) (by omega)
      have d1 := holdr.cell (k * 4 + 1) (by omega)
      have d2 := holdr.cell (k * 4 + 2) (by omega)
      have d3 := holdr.cell (k * 4 + 3) (by omega)
      have f0 := holdr.frozen (k * 4)
      have f1 := holdr.frozen (k * 4 + 1)
      have f2 := holdr.frozen (k * 4 + 2)
      have f3 := holdr.frozen (k * 4 + 3)
      have hn := (((holdr.set (k * 4) x).set (k * 4 + 1) 0).set (k * 4 + 2) 0).set (k * 4 + 3) 0
      have hb2 := (((hbelr.setCell (p := ⟨w.heap.size, k * 4, none⟩) (Nat.le_refl _) (.int .i64 x)).setCell (p := ⟨w.heap.size, k * 4 + 1, none⟩) (Nat.le_refl _) (.int .i64 0)).setCell (p := ⟨w.heap.size, k * 4 + 2, none⟩) (Nat.le_refl _) (.int .i64 0)).setCell (p := ⟨w.heap.size, k * 4 + 3, none⟩) (Nat.le_refl _) (.int .i64 0)
      have hag2 : Hid (∀ j, j < k + 1 → outs ((((zs.set (k * 4) x).set (k * 4 + 1) 0).set (k * 4 + 2) 0).set (k * 4 + 3) 0) j = xs.getD j 0) := by
        intro j hj
        have hl := holdr.1
        unfold outs
        rw [getD_set _ _ _ _ (by simp; omega), if_neg (by omega), getD_set _ _ _ _ (by simp; omega), if_neg (by omega), getD_set _ _ _ _ (by simp; omega), if_neg (by omega), getD_set _ _ _ _ (by omega)]
        by_cases ej : j = k
        · subst ej; rw [if_pos rfl]; exact hx.symm
        · rw [if_neg (by omega)]; exact hag.out j (by omega)
      obtain ⟨y0, e0⟩ : ∃ y, zs.getD (k * 4) 0 = y := ⟨_, rfl⟩
      obtain ⟨y1, e1⟩ : ∃ y, zs.getD (k * 4 + 1) 0 = y := ⟨_, rfl⟩
      obtain ⟨y2, e2⟩ : ∃ y, zs.getD (k * 4 + 2) 0 = y := ⟨_, rfl⟩
      obtain ⟨y3, e3⟩ : ∃ y, zs.getD (k * 4 + 3) 0 = y := ⟨_, rfl⟩
      rw [e0] at d0
      rw [e1] at d1
      rw [e2] at d2
      rw [e3] at d3
      clear hr hx e0 e1 e2 e3 hag holdr hbelr hold hbel
      go_wp2
      go_roundw
      case rel => exact ⟨k + 1, _, by omega, by go_num, hn, hb2, hag2⟩
      case measure => simp [intOf]; omega
    · obtain rfl : k = xs.length := by omega
      go_wp2
      go_ret
      exact ⟨zs, rfl, holdr, hag.out, hbelr⟩

theorem Hold.later {w w' : World} {base g n : Nat} {zs : List Int} (h : Hold w base g n zs) (hb : Below w.heap.size w w') : Hold w' base g n zs := ⟨h.1, ownsRow_below h.2 hb⟩

set_option maxHeartbeats 1000000 in
set_option maxRecDepth 1000000 in
theorem outstanding_in (w : World) (base g n : Nat) (zs : List Int) (hn : n ≤ 100000) (hold : Hold w base g n zs) (s1 s2 : ByteArray) (p : Option Addr) :
    Calls Try.prog 18 #[.agg #[.string s1, .string s2, .slice (some ⟨g, 0, none⟩) n n, .pointer p]] w fun e w' => e = .returned (.int .i64 (wrap64 (tot zs n))) ∧ Below w.heap.size w w' := by
  go_enter Try.func18, Try.ntmps18
  go_wp2
  go_loopw [3, 5, 9] (fun t _ i wr => ∃ k : Nat, k ≤ n ∧ i = .int .i64 k ∧ t = .int .i64 (wrap64 (tot zs k)) ∧ Below w.heap.size w wr)
    (fun _ _ i _ => n - (intOf i).toNat)
  case atStart => exact ⟨0, by omega, rfl, by rw [show tot zs 0 = 0 from rfl, show wrap64 0 = 0 by unfold wrap64; omega], (Below.refl _ _).alloc (Nat.le_refl _) _⟩
  case round =>
    obtain ⟨k, hk, rfl, rfl, hbel⟩ := hrel
    by_cases hlt : k < n
    · have hr := hold.later hbel
      have d0 := hr.cell (k * 4) (by omega)
      have d1 := hr.cell (k * 4 + 1) (by omega)
      have d2 := hr.cell (k * 4 + 2) (by omega)
      have d3 := hr.cell (k * 4 + 3) (by omega)
      have HT : Hid (tot zs (k + 1) = tot zs k + zs.getD (k * 4) 0) := rfl
      obtain ⟨y0, e0⟩ : ∃ y, zs.getD (k * 4) 0 = y := ⟨_, rfl⟩
      obtain ⟨y1, e1⟩ : ∃ y, zs.getD (k * 4 + 1) 0 = y := ⟨_, rfl⟩
      obtain ⟨y2, e2⟩ : ∃ y, zs.getD (k * 4 + 2) 0 = y := ⟨_, rfl⟩
      obtain ⟨y3, e3⟩ : ∃ y, zs.getD (k * 4 + 3) 0 = y := ⟨_, rfl⟩
      rw [e0] at d0 HT
      rw [e1] at d1
      rw [e2] at d2
      rw [e3] at d3
      clear e0 e1 e2 e3 hr hold
      go_wp2
      have hs := hbel.size
      go_roundw
      case rel => exact ⟨k + 1, by omega, by go_num, by rw [HT.out, wrap64_add], hbel.alloc hs _⟩
      case measure => simp [intOf]; omega
    · obtain rfl : k = n := by omega
      go_wp2
      go_ret
      exact ⟨rfl, hbel⟩

/-- ZZOutstanding: the sum of the outstanding counts, modulo 2^64. -/
theorem outstanding_any (w : World) (base g n : Nat) (zs : List Int) (hn : n ≤ 100000) (hold : Hold w base g n zs) (s1 s2 : ByteArray) (p : Option Addr) :
    Calls Try.prog 15 #[.agg #[.string s1, .string s2, .slice (some ⟨g, 0, none⟩) n n, .pointer p]] w fun e w' => e = .returned (.int .i64 (wrap64 (tot zs n))) ∧ Below w.heap.size w w' := by
  go_enter Try.func15, Try.ntmps15
  go_wp2_with (go_at_call 18; refine (outstanding_in _ base g n zs hn (hold.later ((Below.refl _ _).alloc (Nat.le_refl _) _)) s1 s2 p).mono ?_; rintro e w1 ⟨rfl, hb⟩)
  go_ret
  exact ⟨rfl, ((Below.refl _ _).alloc (Nat.le_refl _) _).trans (hb.mono (by simp))⟩

/-- outOf: the sum of the numbers, modulo 2^64. -/
theorem outOf_any (xs : List Int) (hxs : xs.length ≤ 100000) (w : World) (a : Option Addr) (cap : Nat) (hr : Reads w a xs) :
    Calls Try.prog 10 #[.slice a xs.length cap] w fun e w' => e = .returned (.int .i64 (wrap64 (sumL xs xs.length))) ∧ Below w.heap.size w w' := by
  go_enter Try.func10, Try.ntmps10
  go_wp2_with (first
    | (go_at_call 14; refine (holdings_any xs hxs w a cap hr).mono ?_; rintro e w1 ⟨zs, rfl, hold, hag, hb⟩)
    | (go_at_call 15; refine (outstanding_any _ _ _ _ zs hxs hold _ _ _).mono ?_; rintro e w2 ⟨rfl, hb2⟩))
  go_ret
  have hs := hb.size
  refine ⟨?_, hb.trans (hb2.mono hs)⟩
  rw [show tot zs xs.length = sumL xs xs.length from Sg_congr hag]
  rfl

end Go.Proofs.Qxb6003330a
