/-
  Rows of the call's own that grow by append: where the grown row lies; that other rows stay. Nothing of the program in sight but the kit's laws.
-/
import Derived.WalkKit
namespace Go.Proofs.Qxb6002689a
open Go.RowKit

/-- From w to w' nothing that was there has turned but v's own block; v' lies in v's block or in a new one. -/
def Onto (w w' : World) (v v' : Value) : Prop := w.grownBy w' v.ownBlock ∧ (v'.ownBlock = v.ownBlock ∨ ∀ j, v'.ownBlock = some j → w.heap.size ≤ j)

theorem Onto.refl (w : World) (v : Value) : Onto w w v v := ⟨World.grownBy.refl w _, .inl rfl⟩

theorem Onto.trans {w w1 w2 : World} {v v1 v2 : Value} (h : Onto w w1 v v1) (k : Onto w1 w2 v1 v2) : Onto w w2 v v2 := by
  obtain ⟨g1, p1⟩ := h
  obtain ⟨g2, p2⟩ := k
  have hs := g1.size
  refine ⟨⟨g2.os.trans g1.os, g2.tape.trans g1.tape, g2.output.trans g1.output, Nat.le_trans hs g2.size, fun j hj hne => ?_⟩, ?_⟩
  · rw [g2.block j (by omega) ?_, g1.block j hj hne]
    rcases p1 with e | e
    · rw [e]; exact hne
    · intro h
      have := e j h.symm
      omega
  · rcases p2 with e | e
    · rcases p1 with f | f
      · exact .inl (e.trans f)
      · exact .inr fun j hj => f j (by rw [← e]; exact hj)
    · exact .inr fun j hj => by have := e j hj; omega

theorem Onto.alloc (w : World) (o : Obj) (v : Value) : Onto w (w.alloc o) v v := ⟨World.grownBy_alloc w o _, .inl rfl⟩

/-- Below: what is old stays, where v's block is one of the call's own. -/
theorem Onto.below {B : Nat} {w w' : World} {v v' : Value} (h : Onto w w' v v') (hB : B ≤ w.heap.size) (hv : ∀ k, v.ownBlock = some k → B ≤ k) : Below B w w' :=
  (Below.refl B w).grown h.1 hB hv

section
variable {P : Program} (w : World)

theorem run_append_onto (base : Nat) (t ty e : TypeId) (i : TypeInfo) (z : Value) (size bytes : Nat) (ht : P.underlying t = some (.slice e)) (hi : P.info? e = some i) (hz : i.zero = some z)
    (hsize : i.size = size) (hby : i.bytes = bytes) (hzs : z.cells.size = size) (hsz : 0 < size)
    (v : Value) (n : Nat) (xs : List Value) (hown : w.ownsRow base e size v n xs)
    (a : Addr) (m c : Nat) (news : List Value) (hl : news.length = m * size) (hnews : ∀ j u, news[j]? = some u → w.cell? (a.add j) = some u) (h1 : ∀ u ∈ news, u.oneCell' = true)
    (h63 : n + m ≤ maxLen) (hbytes : (n + m) * bytes ≤ 140737488355328) (hbase : base ≤ w.heap.size) :
    ∃ v' w', (Builtin.append_ #[t, t] ty #[v, .slice (some a) m c]).run P w = .ok v' w' ∧ w'.ownsRow base e size v' (n + m) (xs ++ news) ∧ Onto w w' v v' := by
  obtain ⟨v', w', hr, h2, h3, h4⟩ := run_append_own (P := P) w base t ty e i z size bytes ht hi hz hsize hby hzs hsz v n xs hown a m c news hl hnews h1 h63 hbytes hbase
  refine ⟨v', w', hr, h2, h3, ?_⟩
  subst hsize
  subst hby
  have h63' : ((n + m : Nat) : Int) ≤ 9223372036854775807 := by simp only [maxLen] at h63; omega
  rcases hown.2 with ⟨rfl, rfl⟩ | ⟨g, cap, cur, rfl, hbg, hg, hnc, hcm, hcs, htake⟩
  · by_cases hm : m = 0
    · left
      rw [h4.2 ⟨rfl, hm⟩]
    · right
      have hr2 := run_append_nil (P := P) w t ty e i z ht hi hz a m c news hl hnews (by omega) (by omega) (by have hb := hbytes; simp only [Nat.zero_add] at hb; omega)
      rw [hr2] at hr
      injection hr with hv _
      subst hv
      intro j hj
      simp only [Value.ownBlock, Option.some.injEq] at hj
      omega
  · by_cases hroom : n + m ≤ cap
    · left
      have hfit : n * i.size + news.length ≤ cur.size := by rw [hl, hcs, ← Nat.add_mul]; exact Nat.mul_le_mul_right _ hroom
      have hr2 := run_append_room (P := P) w t ty e i ht hi g n cap cur hg a m c news hl hnews h1 hroom hfit
      rw [hr2] at hr
      injection hr with hv _
      subst hv
      rfl
    · right
      have holds : ∀ j u, xs[j]? = some u → w.cell? ((⟨g, 0, none⟩ : Addr).add j) = some u := hown.cells (g := g) rfl
      have hr2 := run_append_grow (P := P) w t ty e i z ht hi hz ⟨g, 0, none⟩ n cap xs hown.1 holds a m c news hl hnews (by omega) (by omega) (growslice_fits (by omega) hbytes)
      rw [hr2] at hr
      injection hr with hv _
      subst hv
      intro j hj
      simp only [Value.ownBlock, Option.some.injEq] at hj
      omega

theorem wpList_append_onto {ops : Array Oper} {rest : List Oper} {o : Oper} {a : Act} {Q : Exit → Act → World → Prop} (hgd : o.guard = none) (s x : Operand) (t : TypeId)
    (ho : o.op = .call { callee := .builtin .append, args := #[s, x], argTypes := #[t, t] })
    (base : Nat) (e : TypeId) (i : TypeInfo) (z : Value) (size bytes : Nat) (ht : P.underlying t = some (.slice e)) (hi : P.info? e = some i) (hz : i.zero = some z)
    (hsize : i.size = size) (hby : i.bytes = bytes) (hzs : z.cells.size = size) (hsz : 0 < size)
    (v : Value) (n : Nat) (xs : List Value) (hs : a.eval s = v) (hown : w.ownsRow base e size v n xs)
    (ad : Addr) (m c : Nat) (news : List Value) (hx : a.eval x = .slice (some ad) m c) (hl : news.length = m * size) (hnews : ∀ j u, news[j]? = some u → w.cell? (ad.add j) = some u) (h1 : ∀ u ∈ news, u.oneCell' = true)
    (h63 : n + m ≤ maxLen) (hbytes : (n + m) * bytes ≤ 140737488355328) (hbase : base ≤ w.heap.size)
    (h : ∀ v' w', w'.ownsRow base e size v' (n + m) (xs ++ news) → Onto w w' v v' → wpList P ops Q rest (a.put o.dst v') w') : wpList P ops Q (o :: rest) a w := by
  refine wpList_plain hgd fun K hK => ?_
  obtain ⟨v', w', hr, h2, h3⟩ := run_append_onto (P := P) w base t o.type e i z size bytes ht hi hz hsize hby hzs hsz v n xs hown ad m c news hl hnews h1 h63 hbytes hbase
  unfold Oper.wp execOp
  simp only [ho, resolve, invoke, builtin, Sem.run_bind, Sem.run_pure, Result.andThen_ok, List.map_toArray, List.map_cons, List.map_nil, hs, hx, hr]
  exact hK _ _ (h v' w' h2 h3)
end

/-- A row that is not empty: its value, written out. -/
theorem ownsRow_some {w : World} {base : Nat} {e : TypeId} {size : Nat} {v : Value} {n : Nat} {xs : List Value} (h : w.ownsRow base e size v n xs) (hn : 0 < n) :
    ∃ g cap, v = .slice (some ⟨g, 0, none⟩) n cap ∧ base ≤ g ∧ g < w.heap.size ∧ n ≤ cap ∧ cap ≤ maxLen := by
  rcases h.2 with ⟨_, h0⟩ | ⟨g, cap, cur, hv, hb, hg, hc, hm, _⟩
  · omega
  · exact ⟨g, cap, hv, hb, (Array.getElem?_eq_some_iff.1 hg).1, hc, hm⟩

/-- A row beside v stays, where v's block is another. -/
theorem Onto.keeps {w w' : World} {v v' u : Value} {base : Nat} {e : TypeId} {size n : Nat} {xs : List Value} (h : Onto w w' v v') (hu : w.ownsRow base e size u n xs) (hne : u.ownBlock = none ∨ u.ownBlock ≠ v.ownBlock) :
    w'.ownsRow base e size u n xs := hu.kept h.1 hne

/-- What is owned stays owned where all old blocks stay. -/
theorem ownsRow_below {w w' : World} {u : Value} {base : Nat} {e : TypeId} {size n : Nat} {xs : List Value} (hu : w.ownsRow base e size u n xs) (h : Below w.heap.size w w') : w'.ownsRow base e size u n xs :=
  hu.kept (row := none) ⟨h.os, h.tape, h.output, h.size, fun k hk _ => h.block k hk⟩ (by cases u.ownBlock <;> simp)

theorem one_new (w : World) (o : Obj) (u : Value) (h : (w.alloc o).cell? ⟨w.heap.size, 0, none⟩ = some u) : ∀ j x, ([u] : List Value)[j]? = some x → (w.alloc o).cell? ((⟨w.heap.size, 0, none⟩ : Addr).add j) = some x := by
  intro j x hj
  match j, hj with
  | 0, hj => simp at hj; subst hj; simpa [Addr.add] using h

theorem i64_bd {n : Int} (h : (Lit.int .i64 n).wf = true) : -9223372036854775808 ≤ n ∧ n ≤ 9223372036854775807 := by
  simp [Lit.wf, IntKind.min, IntKind.max, IntKind.signed, IntKind.bits] at h; omega
theorem i64_lt {n : Nat} (h : (Lit.int .i64 (n : Int)).wf = true) : n < 9223372036854775808 := by have := i64_bd h; omega
theorem u8_bd {n : Int} (h : (Lit.int .u8 n).wf = true) : 0 ≤ n ∧ n < 256 := by
  simp [Lit.wf, IntKind.min, IntKind.max, IntKind.signed, IntKind.bits] at h; omega

end Go.Proofs.Qxb6002689a
