/-
  The walk of FnOutstandingReleaseScript.
-/
import Derived.Test.Qxb6003330aHold
namespace Go.Proofs.Qxb6003330a
open Go.RowKit

/-- What is read behind an address: the bools bs. -/
def ReadsB (w : World) (a : Option Addr) (bs : List Bool) : Prop :=
  bs = [] ∨ ∃ g off, a = some ⟨g, off, none⟩ ∧ ∀ j, j < bs.length → w.cell? ⟨g, off + j, none⟩ = some (.bool (bs.getD j false))

/-- What stands at every round's head: n holdings in block H, the grantee in block G, all else as it was. -/
def Inv (w wr : World) (H G n : Nat) (zs : List Int) : Prop :=
  Hold wr H H n zs ∧ (wr.cell? ⟨G, 0, none⟩ = some (.string ⟨#[]⟩) ∧ wr.cell? ⟨G, 1, none⟩ = some (.string ⟨#[]⟩) ∧ wr.cell? ⟨G, 2, none⟩ = some (.slice (some ⟨H, 0, none⟩) n n) ∧ wr.cell? ⟨G, 3, none⟩ = some (.pointer none)) ∧
  Below w.heap.size w wr ∧ w.heap.size ≤ H ∧ H < G

theorem Inv.set {w wr : World} {H G n : Nat} {zs : List Int} (h : Inv w wr H G n zs) (j : Nat) (x : Int) : Inv w (wr.setCell ⟨H, j, none⟩ (.int .i64 x)) H G n (zs.set j x) := by
  obtain ⟨h1, ⟨c0, c1, c2, c3⟩, h3, h4, h5⟩ := h
  have o : ∀ q, (wr.setCell ⟨H, j, none⟩ (.int .i64 x)).cell? ⟨G, q, none⟩ = wr.cell? ⟨G, q, none⟩ := fun q => World.cell?_setCell_other _ _ _ _ (by simp)
  exact ⟨h1.set j x, ⟨(o 0).trans c0, (o 1).trans c1, (o 2).trans c2, (o 3).trans c3⟩, h3.setCell h4 _, h4, h5⟩

theorem Inv.later {w wr w' : World} {H G n : Nat} {zs : List Int} (h : Inv w wr H G n zs) (hb : Below wr.heap.size wr w') : Inv w w' H G n zs := by
  obtain ⟨h1, ⟨c0, c1, c2, c3⟩, h3, h4, h5⟩ := h
  exact ⟨h1.later hb, ⟨cell_later hb c0, cell_later hb c1, cell_later hb c2, cell_later hb c3⟩, h3.trans (hb.mono h3.size), h4, h5⟩

set_option maxRecDepth 1000000 in
theorem script_bytes (a0 a1 a2 a3 : Option Addr) (l0 l1 l2 l3 c0 c1 c2 c3 : Nat) (w : World) (h0 : l0 ≤ 4096) (h1 : l1 ≤ 1024) (h2 : l2 ≤ 1024) (h3 : l3 ≤ 1024) :
    Calls Try.prog 16 #[.slice a0 l0 c0, .slice a1 l1 c1, .slice a2 l2 c2, .slice a3 l3 c3] w fun e w' => e = .returned (.bool true) ∧ w = w' := by
  go_enter Try.func16, Try.ntmps16
  go_wp2
  go_ret
  exact ⟨rfl, rfl⟩

set_option maxHeartbeats 1000000 in
set_option maxRecDepth 1000000 in
theorem script_bytes_any (a0 a1 a2 a3 : Option Addr) (l0 l1 l2 l3 c0 c1 c2 c3 : Nat) (w : World) (h0 : l0 ≤ maxLen) (h1 : l1 ≤ maxLen) (h2 : l2 ≤ maxLen) (h3 : l3 ≤ maxLen) :
    Calls Try.prog 16 #[.slice a0 l0 c0, .slice a1 l1 c1, .slice a2 l2 c2, .slice a3 l3 c3] w fun e w' => (∃ b, e = .returned (.bool b)) ∧ w = w' := by
  unfold maxLen at h0 h1 h2 h3
  go_enter Try.func16, Try.ntmps16
  go_wp2
  all_goals (go_ret; exact ⟨⟨_, rfl⟩, rfl⟩)

set_option maxHeartbeats 16000000 in
set_option maxRecDepth 1000000 in
theorem script_in (xs is am : List Int) (rl : List Bool) (a0 a1 a2 a3 : Option Addr) (l1 l2 l3 st c0 c1 c2 c3 : Nat) (w : World)
    (e1 : l1 = is.length) (e2 : l2 = am.length) (e3 : l3 = rl.length)
    (h0 : xs.length ≤ 4096) (h1 : l1 ≤ 1024) (h2 : l2 ≤ 1024) (h3 : l3 ≤ 1024) (hpos : 0 < xs.length)
    (hst : (l2 < l1 ∧ l3 < l2 ∧ st = l3) ∨ (l2 < l1 ∧ ¬ l3 < l2 ∧ st = l2) ∨ (¬ l2 < l1 ∧ l3 < l1 ∧ st = l3) ∨ (¬ l2 < l1 ∧ ¬ l3 < l1 ∧ st = l1))
    (r0 : Reads w a0 xs) (hnil : a0 = none → xs = []) (r1 : Reads w a1 is) (r2 : Reads w a2 am) (r3 : ReadsB w a3 rl) :
    Calls Try.prog 6 #[.slice a0 xs.length c0, .slice a1 l1 c1, .slice a2 l2 c2, .slice a3 l3 c3] w fun e w' => e = .returned (.bool true) ∧ Below w.heap.size w w' := by
  have E1 : Hid (l1 = is.length ∧ l2 = am.length ∧ l3 = rl.length) := ⟨e1, e2, e3⟩
  have hs1 : st ≤ l1 := by omega
  have hs2 : st ≤ l2 := by omega
  have hs3 : st ≤ l3 := by omega
  clear e1 e2 e3
  rcases hst with ⟨q1, q2, rfl⟩ | ⟨q1, q2, rfl⟩ | ⟨q1, q2, rfl⟩ | ⟨q1, q2, rfl⟩
  all_goals
    go_enter Try.func6, Try.ntmps6
    go_wp2_with (first
      | (go_at_call 16; refine (script_bytes a0 a1 a2 a3 xs.length _ _ _ c0 c1 c2 c3 w h0 h1 h2 h3).mono ?_; rintro e w' ⟨rfl, rfl⟩)
      | (go_at_call 9; refine (clone_any xs (by omega) w a0 c0 r0 hnil).mono ?_; rintro e w1 ⟨vb, rfl, o1, b1⟩; obtain ⟨ab, cb, hvb, rb⟩ := reads_own o1; subst hvb; clear o1)
      | (go_at_call 14; refine (holdings_any xs (by omega) w1 ab cb rb).mono ?_; rintro e w2 ⟨zs, rfl, hold, -, b2⟩))
    have hHG : w1.heap.size < w2.heap.size := (hold.2.lt _ rfl).2
    have hwH : w.heap.size ≤ w1.heap.size := b1.size
    have hbW : Below w.heap.size w w2 := b1.trans (b2.mono hwH)
    have inv0 : Inv w (w2.alloc (.cells #[.string ⟨#[]⟩, .string ⟨#[]⟩, .slice (some ⟨w1.heap.size, 0, none⟩) xs.length xs.length, .pointer none] 34)) w1.heap.size w2.heap.size xs.length zs :=
      ⟨hold.later ((Below.refl _ _).alloc (Nat.le_refl _) _), ⟨by simp, by simp, by simp, by simp⟩, hbW.alloc (by omega) _, hwH, hHG⟩
    go_at_call 15
    refine (outstanding_any _ _ _ _ zs (by omega) inv0.1 _ _ _).mono ?_
    rintro e w3 ⟨rfl, b3⟩
    have inv := inv0.later b3
    clear inv0 b3 hold b1 b2 rb hbW r0 hnil
    obtain ⟨E, hE⟩ : ∃ E, wrap64 (tot zs xs.length) = E := ⟨_, rfl⟩
    rw [hE]
    have HE : Hid (wrap64 (tot zs xs.length) = E) := hE
    clear hE
    go_wp2
    go_loopw [8, 12, 14, 15, 16, 17] (fun _ e s _ _ _ wr => ∃ k : Nat, ∃ zs : List Int, ∃ E : Int, k ≤ st ∧ s = .int .i64 k ∧ e = .int .i64 E ∧ Hid (wrap64 (tot zs xs.length) = E) ∧ Inv w wr w1.heap.size w2.heap.size xs.length zs)
      (fun _ _ s _ _ _ _ => st - (intOf s).toNat)
    case atStart => exact ⟨0, zs, E, by omega, rfl, rfl, HE, inv⟩
    case round =>
      clear HE inv
      obtain ⟨k, zs, E, hk, rfl, rfl, HE, inv⟩ := hrel
      by_cases hlt : k < st
      · have hbr := inv.2.2.1
        obtain ⟨g1, p1, rfl, s1⟩ := r1.resolve_left (by intro h; have := E1.out.1; rw [h] at this; simp at this; omega)
        obtain ⟨g2, p2, rfl, s2⟩ := r2.resolve_left (by intro h; have := E1.out.2.1; rw [h] at this; simp at this; omega)
        obtain ⟨g3, p3, rfl, s3⟩ := r3.resolve_left (by intro h; have := E1.out.2.2; rw [h] at this; simp at this; omega)
        have d1 := cell_later hbr (s1 k (by have := E1.out.1; omega))
        have d2 := cell_later hbr (s2 k (by have := E1.out.2.1; omega))
        have d3 := cell_later hbr (s3 k (by have := E1.out.2.2; omega))
        obtain ⟨iv, hiv⟩ : ∃ y, is.getD k 0 = y := ⟨_, rfl⟩
        obtain ⟨av, hav⟩ : ∃ y, am.getD k 0 = y := ⟨_, rfl⟩
        obtain ⟨bv, hbv⟩ : ∃ y, rl.getD k false = y := ⟨_, rfl⟩
        rw [hiv] at d1
        rw [hav] at d2
        rw [hbv] at d3
        clear r1 r2 r3 s1 s2 s3 hiv hav hbv hbr
        by_cases hneg : iv < 0
        · have hd : decide (iv < 0) = true := decide_eq_true hneg
          go_wp2
          go_roundw
          case rel => exact ⟨k + 1, zs, E, by omega, by go_num, rfl, HE, inv⟩
          case measure => simp [intOf]; omega
        · have hd : decide (iv < 0) = false := decide_eq_false hneg
          by_cases hbig : (xs.length : Int) ≤ iv
          · go_wp2
            go_roundw
            case rel => exact ⟨k + 1, zs, E, by omega, by go_num, rfl, HE, inv⟩
            case measure => simp [intOf]; omega
          · obtain ⟨i, rfl⟩ : ∃ i : Nat, iv = i := ⟨iv.toNat, by omega⟩
            have hi : i < xs.length := by omega
            have hl := inv.1.1
            have m0 := inv.1.cell (i * 4) (by omega)
            have f0 := inv.1.frozen (i * 4)
            have hG := inv.2.2.2.2
            have hlz : zs.length = 4 * xs.length := hl
            have HL : Hid (zs.length = 4 * xs.length) := hl
            clear hl hlz
            cases bv with
            | true =>
              have m1 := inv.1.cell (i * 4 + 1) (by omega)
              have f1 := inv.1.frozen (i * 4 + 1)
              obtain ⟨y1, hy1⟩ : ∃ y, zs.getD (i * 4 + 1) 0 = y := ⟨_, rfl⟩
              have hrel : Hid (wrap64 (tot ((zs.set (i * 4) (wrap64 (outs zs i - av))).set (i * 4 + 1) (wrap64 (y1 + av))) xs.length) = wrap64 (E - av)) := by
                unfold Hid; rw [release _ _ hi HL.out, HE.out]
              unfold outs at hrel
              obtain ⟨y0, hy0⟩ : ∃ y, zs.getD (i * 4) 0 = y := ⟨_, rfl⟩
              rw [hy0] at m0 hrel
              rw [hy1] at m1
              have inv2 := (inv.set (i * 4) (wrap64 (y0 - av))).set (i * 4 + 1) (wrap64 (y1 + av))
              have hc := outstanding_any _ _ _ _ _ (by omega) inv2.1 ⟨#[]⟩ ⟨#[]⟩ none
              rw [hrel.out] at hc
              obtain ⟨-, ⟨k0, k1, k2, k3⟩, -⟩ := inv
              clear HE hy0 hy1
              go_wp2_with (go_at_call 15; refine hc.mono ?_; rintro e w4 ⟨rfl, b4⟩)
              have inv3 := inv2.later b4
              go_roundw
              case rel => exact ⟨k + 1, _, wrap64 (E - av), by omega, by go_num, rfl, hrel, inv3⟩
              case measure => simp [intOf]; omega
            | false =>
              by_cases hnext : i + 1 < xs.length
              · have hj : ((i : Int) + 1 == (xs.length : Int)) = false := by simp; omega
                have m1 := inv.1.cell ((i + 1) * 4) (by omega)
                have f1 := inv.1.frozen ((i + 1) * 4)
                have hrel : Hid (wrap64 (tot ((zs.set (i * 4) (wrap64 (zs.getD (i * 4) 0 - av))).set ((i + 1) * 4) (wrap64 (zs.getD ((i + 1) * 4) 0 + av))) xs.length) = E) := by
                  unfold Hid; rw [move_other av hi hnext (by omega) HL.out, HE.out]
                obtain ⟨y0, hy0⟩ : ∃ y, zs.getD (i * 4) 0 = y := ⟨_, rfl⟩
                obtain ⟨y1, hy1⟩ : ∃ y, zs.getD ((i + 1) * 4) 0 = y := ⟨_, rfl⟩
                rw [hy0] at m0 hrel
                rw [hy1] at m1 hrel
                have inv2 := (inv.set (i * 4) (wrap64 (y0 - av))).set ((i + 1) * 4) (wrap64 (y1 + av))
                have hc := outstanding_any _ _ _ _ _ (by omega) inv2.1 ⟨#[]⟩ ⟨#[]⟩ none
                rw [hrel.out] at hc
                obtain ⟨-, ⟨k0, k1, k2, k3⟩, -⟩ := inv
                clear HE hy0 hy1
                go_wp2_with (go_at_call 15; refine hc.mono ?_; rintro e w4 ⟨rfl, b4⟩)
                have inv3 := inv2.later b4
                go_roundw
                case rel => exact ⟨k + 1, _, E, by omega, by go_num, rfl, hrel, inv3⟩
                case measure => simp [intOf]; omega
              · have hj : ((i : Int) + 1 == (xs.length : Int)) = true := by simp; omega
                by_cases hone : i = 0
                · subst hone
                  simp only [Nat.zero_mul] at m0 f0
                  have hxe : ¬ xs = [] := by intro h; rw [h] at hpos; simp at hpos
                  clear hbig hd hneg
                  have hrel : Hid (wrap64 (tot ((zs.set 0 (wrap64 (zs.getD 0 0 - av))).set 0 (wrap64 (wrap64 (zs.getD 0 0 - av) + av))) xs.length) = E) := by
                    unfold Hid; rw [move_same av hi HL.out, HE.out]
                  obtain ⟨y0, hy0⟩ : ∃ y, zs.getD 0 0 = y := ⟨_, rfl⟩
                  rw [hy0] at m0 hrel
                  have inv2 := (inv.set 0 (wrap64 (y0 - av))).set 0 (wrap64 (wrap64 (y0 - av) + av))
                  have hc := outstanding_any _ _ _ _ _ (by omega) inv2.1 ⟨#[]⟩ ⟨#[]⟩ none
                  rw [hrel.out] at hc
                  obtain ⟨-, ⟨k0, k1, k2, k3⟩, -⟩ := inv
                  clear HE hy0
                  go_wp2_with (go_at_call 15; refine hc.mono ?_; rintro e w4 ⟨rfl, b4⟩)
                  have inv3 := inv2.later b4
                  go_roundw
                  case rel => exact ⟨k + 1, _, E, by omega, by go_num, rfl, hrel, inv3⟩
                  case measure => simp [intOf]; omega
                · have m1 := inv.1.cell 0 (by omega)
                  have f1 := inv.1.frozen 0
                  have hrel : Hid (wrap64 (tot ((zs.set (i * 4) (wrap64 (zs.getD (i * 4) 0 - av))).set (0 * 4) (wrap64 (zs.getD (0 * 4) 0 + av))) xs.length) = E) := by
                    unfold Hid; rw [move_other av hi (by omega) (by omega) HL.out, HE.out]
                  simp only [Nat.zero_mul] at hrel
                  obtain ⟨y0, hy0⟩ : ∃ y, zs.getD (i * 4) 0 = y := ⟨_, rfl⟩
                  obtain ⟨y1, hy1⟩ : ∃ y, zs.getD 0 0 = y := ⟨_, rfl⟩
                  rw [hy0] at m0 hrel
                  rw [hy1] at m1 hrel
                  have inv2 := (inv.set (i * 4) (wrap64 (y0 - av))).set 0 (wrap64 (y1 + av))
                  have hc := outstanding_any _ _ _ _ _ (by omega) inv2.1 ⟨#[]⟩ ⟨#[]⟩ none
                  rw [hrel.out] at hc
                  obtain ⟨-, ⟨k0, k1, k2, k3⟩, -⟩ := inv
                  clear HE hy0 hy1
                  go_wp2_with (go_at_call 15; refine hc.mono ?_; rintro e w4 ⟨rfl, b4⟩)
                  have inv3 := inv2.later b4
                  go_roundw
                  case rel => exact ⟨k + 1, _, E, by omega, by go_num, rfl, hrel, inv3⟩
                  case measure => simp [intOf]; omega
      · go_wp2
        go_ret
        exact ⟨rfl, inv.2.2.1⟩

end Go.Proofs.Qxb6003330a
