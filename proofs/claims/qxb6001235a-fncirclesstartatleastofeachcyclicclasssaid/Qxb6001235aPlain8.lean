import Derived.Test.Qxb6001235aCircs
/-! Seat b6001235a: what the circles are, plainly; how they lie in memory. -/
namespace Go.Proofs.Qxb6001235a
set_option linter.unusedVariables false
open Go.RowKit Go.Maps

section
variable {G : Gr}
theorem Walk.step : ∀ (r : List Nat) (v : Nat), G.Walk v r → ∀ (i x y : Nat), (v :: r)[i]? = some x → (v :: r)[i + 1]? = some y → y ∈ G.adj x := by
  intro r
  induction r with
  | nil => intro v _ i x y _ h2; simp at h2
  | cons a r ih =>
    intro v hw i x y h1 h2
    obtain ⟨ha, hw⟩ := hw
    cases i with
    | zero => simp at h1 h2; rw [← h1, ← h2]; exact ha
    | succ i =>
      simp only [List.getElem?_cons_succ] at h1 h2
      exact ih a hw i x y h1 (by simpa using h2)

/-- The circle through a start. -/
structure IsCircle (G : Gr) (v : Nat) (q : List Nat) : Prop where
  vn : v < G.n
  eq : circ G (compT G) v = v :: (q ++ [v])
  walk : ∀ (i x y : Nat), (v :: (q ++ [v]))[i]? = some x → (v :: (q ++ [v]))[i + 1]? = some y → y ∈ G.adj x
  nd : (v :: q).Nodup
  comp : ∀ x, x ∈ v :: q → x < G.n ∧ compT G x = compT G v ∧ v ≤ x
  low : ∀ u, u < v → compT G u ≠ compT G v

theorem circle_of (hG : G.ok) {v : Nat} (hv : v ∈ startsT G G.n) : ∃ q, IsCircle G v q := by
  obtain ⟨h1, h2, h3⟩ := (mem_starts hG (sccT hG)).1 hv
  obtain ⟨q, q1, q2, q3, q4⟩ := circ_some hG (sccT hG) h1 h3
  refine ⟨q, h1, q1, Walk.step _ v q2, List.nodup_cons.2 ⟨fun hm => (q4 v hm).2.2 rfl, q3⟩, fun x hx => ?_, h2⟩
  rcases List.mem_cons.1 hx with e | hx
  · subst e; exact ⟨h1, rfl, Nat.le_refl _⟩
  · obtain ⟨a1, a2, _⟩ := q4 x hx
    refine ⟨a1, a2, ?_⟩
    rcases Nat.lt_or_ge x v with h | h
    · exact absurd a2 (h2 x h)
    · exact h

/-- How the answer of Circles lies in memory. -/
structure Fnd (G : Gr) (w : World) (fa : Option Addr) (fg : Nat) : Prop where
  at_ : 0 < (startsT G G.n).length → fa = some ⟨fg, 0, none⟩
  row : ∀ (k v : Nat), (startsT G G.n)[k]? = some v → ∃ pa pg pc, w.cell? ⟨fg, k, none⟩ = some (.slice pa (circ G (compT G) v).length pc) ∧ (0 < (circ G (compT G) v).length → pa = some ⟨pg, 0, none⟩) ∧
    ∀ (j x : Nat), (circ G (compT G) v)[j]? = some x → w.cell? ⟨pg, j, none⟩ = some (.int .i64 (x : Int))

theorem Fnd.of {W w : World} {FV : Value} {rows : List Value} (hx : Ext W w) (h : w.ownsRow W.heap.size 25 1 FV (startsT G G.n).length rows)
    (hr : ∀ (j v : Nat), (startsT G G.n)[j]? = some v → ∃ rv, rows[j]? = some rv ∧ w.ownsRow W.heap.size 3 1 rv (circ G (compT G) v).length (ints (circ G (compT G) v))) :
    ∃ fa fg fc, FV = .slice fa (startsT G G.n).length fc ∧ Fnd G w fa fg := by
  rcases h.2 with ⟨e1, e2⟩ | ⟨g, cap, cur, e1, e2, _⟩
  · refine ⟨none, 0, 0, by rw [e1, e2], fun h0 => absurd h0 (by omega), fun k v hk => ?_⟩
    have := (List.getElem?_eq_some_iff.1 hk).1
    omega
  · refine ⟨_, g, cap, e1, fun _ => rfl, fun k v hk => ?_⟩
    obtain ⟨rv, h1, h2⟩ := hr k v hk
    obtain ⟨pa, pg, pc, hR⟩ := Row.of_own hx h2
    have hc := h.cells (g := g) (by rw [e1]; rfl) k rv h1
    rw [Addr.add_lit, Nat.zero_add, hR.sh] at hc
    exact ⟨pa, pg, pc, hc, hR.at_, hR.cell⟩
theorem Fnd.ext {w w' : World} {fa : Option Addr} {fg : Nat} (h : Fnd G w fa fg) (hx : Ext w w') : Fnd G w' fa fg := by
  refine ⟨h.at_, fun k v hk => ?_⟩
  obtain ⟨pa, pg, pc, h1, h2, h3⟩ := h.row k v hk
  exact ⟨pa, pg, pc, hx.cell h1, h2, fun j x hj => hx.cell (h3 j x hj)⟩

/-- What is marked when k circles are through, and i vertices of the next. -/
def SeenOk (G : Gr) (k : Nat) (pre : List Nat) (seen : Nat → Bool) : Prop := ∀ x, seen x = true → (∃ j v, j < k ∧ (startsT G G.n)[j]? = some v ∧ compT G x = compT G v) ∨ x ∈ pre

theorem SeenOk.free {k v i x : Nat} {q : List Nat} {seen : Nat → Bool} (h : SeenOk G k ((v :: q).take i) seen) (hv : (startsT G G.n)[k]? = some v) (hc : IsCircle G v q) (hx : (v :: q)[i]? = some x) : seen x = false := by
  cases hs : seen x with
  | false => rfl
  | true =>
    exfalso
    rcases h x hs with ⟨j, u, hj, hu, e⟩ | hm
    · have hlt : u < v := by
        have := starts_lt (G := G) (comp := compT G) (size := sizeT G) G.n
        rw [List.pairwise_iff_getElem] at this
        obtain ⟨a1, a2⟩ := List.getElem?_eq_some_iff.1 hu
        obtain ⟨b1, b2⟩ := List.getElem?_eq_some_iff.1 hv
        have h3 := this j k a1 b1 hj
        unfold startsT at a2 b2
        rw [a2, b2] at h3
        exact h3
      have := (hc.comp x (List.mem_of_getElem? hx)).2.1
      exact hc.low u hlt (e.symm.trans this)
    · obtain ⟨j, hj⟩ := List.mem_iff_getElem?.1 hm
      rw [List.getElem?_take] at hj
      split at hj
      · rename_i hji
        have := nodup_pos hc.nd hj hx
        omega
      · cases hj
theorem SeenOk.mark {k i x : Nat} {l : List Nat} {seen : Nat → Bool} (h : SeenOk G k (l.take i) seen) (hx : l[i]? = some x) : SeenOk G k (l.take (i + 1)) (upd seen x true) := by
  intro y hy
  by_cases e : y = x
  · right; rw [← take_snoc hx, e]; simp
  · rw [upd_other _ _ e] at hy
    rcases h y hy with h1 | h1
    · exact Or.inl h1
    · right; rw [← take_snoc hx]; simp [h1]
theorem SeenOk.through {k v : Nat} {q : List Nat} {seen : Nat → Bool} (h : SeenOk G k (v :: q) seen) (hv : (startsT G G.n)[k]? = some v) (hc : IsCircle G v q) : SeenOk G (k + 1) [] seen := by
  intro y hy
  left
  rcases h y hy with ⟨j, u, h1, h2, h3⟩ | h1
  · exact ⟨j, u, by omega, h2, h3⟩
  · exact ⟨k, v, by omega, hv, (hc.comp y h1).2.1⟩
end
end Go.Proofs.Qxb6001235a
