import Derived.Test.Qxb6001235aCircle
/-! Seat b6001235a: Kahn's algorithm and a plain search, by what their loops keep. No Go in sight. -/
namespace Go.Proofs.Qxb6001235a
set_option linter.unusedVariables false

theorem cnt_nodup {n : Nat} : ∀ (q : List Nat), q.Nodup → (∀ x, x ∈ q → x < n) → cntF (fun u => decide (u ∈ q)) n + q.length = n := by
  intro q
  induction q with
  | nil => intro _ _; have := cntF_all n; simpa using this
  | cons a r ih =>
    intro h1 h2
    obtain ⟨ha, hr⟩ := List.nodup_cons.1 h1
    have h3 := ih hr (fun x hx => h2 x (List.mem_cons_of_mem _ hx))
    have h4 := cntF_upd (f := fun u => decide (u ∈ r)) (h2 a List.mem_cons_self) (by simp [ha])
    have h5 : cntF (upd (fun u => decide (u ∈ r)) a true) n = cntF (fun u => decide (u ∈ a :: r)) n := cntF_congr (fun v _ => by
      by_cases e : v = a
      · subst e; simp [upd]
      · simp [upd, e])
    rw [List.length_cons]
    omega
theorem cntF_zero {f : Nat → Bool} : ∀ {n : Nat}, cntF f n = 0 → ∀ v, v < n → f v = true := by
  intro n
  induction n with
  | zero => intro _ v h; omega
  | succ k ih =>
    intro h v hv
    unfold cntF at h
    by_cases e : v = k
    · subst e
      cases hf : f v with
      | true => rfl
      | false => rw [hf] at h; simp at h
    · exact ih (by omega) v (by omega)
theorem cntF_pos {f : Nat → Bool} {v : Nat} : ∀ {n : Nat}, v < n → f v = false → 0 < cntF f n := by
  intro n h1 h2
  have := cntF_upd h1 h2
  omega

/-- The edges to w from the vertices below k that are not in S. -/
def deg (G : Gr) (S : Nat → Bool) (w : Nat) : Nat → Nat
  | 0 => 0
  | k + 1 => deg G S w k + if S k = true then 0 else (G.adj k).count w

section
variable {G : Gr}
theorem deg_congr {S T : Nat → Bool} {w k : Nat} (h : ∀ v, v < k → S v = T v) : deg G S w k = deg G T w k := by
  induction k with
  | zero => rfl
  | succ k ih => unfold deg; rw [ih (fun v hv => h v (by omega)), h k (by omega)]
theorem deg_upd {S : Nat → Bool} {v w k : Nat} (hv : v < k) (hS : S v = false) : deg G S w k = deg G (upd S v true) w k + (G.adj v).count w := by
  induction k with
  | zero => omega
  | succ k ih =>
    unfold deg
    by_cases e : v = k
    · subst e
      rw [deg_congr (S := upd S v true) (T := S) (fun u hu => upd_other _ _ (by omega)), upd_same, hS]
      simp
    · rw [upd_other _ _ (show k ≠ v by omega), ih (by omega)]
      omega
theorem deg_zero {S : Nat → Bool} {w k : Nat} (h : deg G S w k = 0) : ∀ u, u < k → w ∈ G.adj u → S u = true := by
  induction k with
  | zero => intro u hu; omega
  | succ k ih =>
    unfold deg at h
    intro u hu hw
    by_cases e : u = k
    · subst e
      cases hf : S u with
      | true => rfl
      | false =>
        rw [hf] at h
        have := List.count_pos_iff.2 hw
        simp at h
        omega
    · exact ih (by omega) u (by omega) hw
theorem deg_pos {S : Nat → Bool} {w k : Nat} (h : deg G S w k ≠ 0) : ∃ u, u < k ∧ w ∈ G.adj u ∧ S u = false := by
  induction k with
  | zero => exact absurd rfl h
  | succ k ih =>
    by_cases e : deg G S w k = 0
    · unfold deg at h
      rw [e] at h
      cases hf : S k with
      | true => rw [hf] at h; simp at h
      | false =>
        rw [hf] at h
        refine ⟨k, by omega, List.count_pos_iff.1 ?_, hf⟩
        simp only [Bool.false_eq_true, if_false] at h
        omega
    · obtain ⟨u, h1, h2⟩ := ih e
      exact ⟨u, by omega, h2⟩
theorem deg_le {S : Nat → Bool} {w k m : Nat} (h : ∀ v, v < k → (G.adj v).length ≤ m) : deg G S w k ≤ k * m := by
  induction k with
  | zero => simp [deg]
  | succ k ih =>
    unfold deg
    have h1 := ih (fun v hv => h v (by omega))
    have h2 := h k (by omega)
    have h3 : (G.adj k).count w ≤ (G.adj k).length := List.count_le_length
    rw [Nat.succ_mul]
    split <;> omega

/-- What the main loop keeps: S is done, and r is left of the edges of the last of S. -/
structure KM (G : Gr) (S : Nat → Bool) (h : Nat) (r : List Nat) (ind : Nat → Int) (q : List Nat) : Prop where
  kind : ∀ w, w < G.n → ind w = (deg G S w G.n : Int) + (r.count w : Int)
  mem : ∀ w, w < G.n → (w ∈ q ↔ ind w = 0)
  lt : ∀ w, w ∈ q → w < G.n
  nd : q.Nodup
  kS : ∀ u, S u = true ↔ ∃ i, i < h ∧ q[i]? = some u
  hle : h ≤ q.length
  ord : ∀ (j : Nat) (w : Nat), q[j]? = some w → ∀ u, u < G.n → w ∈ G.adj u → ∃ i, i < j ∧ q[i]? = some u

theorem nodup_pos {q : List Nat} (hq : q.Nodup) {i j v : Nat} (hi : q[i]? = some v) (hj : q[j]? = some v) : i = j := by
  obtain ⟨i1, i2⟩ := List.getElem?_eq_some_iff.1 hi
  obtain ⟨j1, j2⟩ := List.getElem?_eq_some_iff.1 hj
  rw [List.Nodup, List.pairwise_iff_getElem] at hq
  rcases Nat.lt_trichotomy i j with h | h | h
  · exact absurd (i2.trans j2.symm) (hq i j i1 j1 h)
  · exact h
  · exact absurd (j2.trans i2.symm) (hq j i j1 i1 h)

theorem KM.init (ind : Nat → Int) (hi : ∀ w, w < G.n → ind w = (deg G (fun _ => false) w G.n : Int)) : KM G (fun _ => false) 0 [] ind ((List.range G.n).filter (fun w => decide (ind w = 0))) := by
  refine ⟨fun w hw => by rw [hi w hw]; simp, fun w hw => by simp [hw], fun w hw => by simp at hw; exact hw.1, List.Pairwise.filter _ List.nodup_range, fun u => ⟨fun h => (by cases h), fun ⟨i, h, _⟩ => (by omega)⟩, Nat.zero_le _, ?_⟩
  intro j w hj u hu hw
  have hm := List.mem_of_getElem? hj
  simp at hm
  rw [hi w hm.1] at hm
  have := deg_zero (S := fun _ => false) (show deg G (fun _ => false) w G.n = 0 by omega) u hu hw
  cases this

theorem KM.begin {S : Nat → Bool} {h v : Nat} {ind : Nat → Int} {q : List Nat} (H : KM G S h [] ind q) (hv : q[h]? = some v) : v < G.n ∧ KM G (upd S v true) (h + 1) (G.adj v) ind q := by
  have hvn := H.lt v (List.mem_of_getElem? hv)
  have hS : S v = false := by
    cases hf : S v with
    | false => rfl
    | true =>
      obtain ⟨i, i1, i2⟩ := (H.kS v).1 hf
      have := nodup_pos H.nd i2 hv
      omega
  refine ⟨hvn, fun w hw => ?_, H.mem, H.lt, H.nd, fun u => ?_, ?_, H.ord⟩
  · rw [H.kind w hw, deg_upd hvn hS]
    simp
  · by_cases e : u = v
    · subst e
      exact ⟨fun _ => ⟨h, by omega, hv⟩, fun _ => upd_same _ _ _⟩
    · rw [upd_other _ _ e, H.kS u]
      constructor
      · rintro ⟨i, i1, i2⟩; exact ⟨i, by omega, i2⟩
      · rintro ⟨i, i1, i2⟩
        by_cases e2 : i = h
        · subst e2; rw [hv] at i2; exact absurd (Option.some.inj i2).symm e
        · exact ⟨i, by omega, i2⟩
  · have := (List.getElem?_eq_some_iff.1 hv).1
    omega

theorem KM.step {S : Nat → Bool} {h w : Nat} {r : List Nat} {ind : Nat → Int} {q : List Nat} (H : KM G S h (w :: r) ind q) (hw : w < G.n) :
    1 ≤ ind w ∧ KM G S h r (upd ind w (ind w - 1)) (if ind w - 1 = 0 then q ++ [w] else q) := by
  have h1 := H.kind w hw
  rw [List.count_cons_self] at h1
  have hge : 1 ≤ ind w := by omega
  have hnq : w ∉ q := fun hm => by
    have := (H.mem w hw).1 hm
    omega
  have hind : ∀ u, u < G.n → upd ind w (ind w - 1) u = (deg G S u G.n : Int) + (r.count u : Int) := by
    intro u hu
    by_cases e : u = w
    · subst e; rw [upd_same]; omega
    · rw [upd_other _ _ e, H.kind u hu, List.count_cons_of_ne (fun e2 => e e2.symm)]
  refine ⟨hge, ?_⟩
  by_cases e0 : ind w - 1 = 0
  · rw [if_pos e0]
    refine ⟨hind, fun u hu => ?_, fun u hu => ?_, ?_, fun u => ?_, ?_, fun j x hj u hu hx => ?_⟩
    · by_cases e : u = w
      · subst e; rw [upd_same]; simp [e0]
      · rw [upd_other _ _ e, ← H.mem u hu]; simp [e]
    · rcases List.mem_append.1 hu with h | h
      · exact H.lt u h
      · simp at h; rw [h]; exact hw
    · rw [List.nodup_append]
      refine ⟨H.nd, by simp, ?_⟩
      intro a ha b hb e
      simp at hb
      subst hb
      subst e
      exact hnq ha
    · rw [H.kS u]
      have := H.hle
      constructor
      · rintro ⟨i, i1, i2⟩; exact ⟨i, i1, by rw [List.getElem?_append_left (by omega)]; exact i2⟩
      · rintro ⟨i, i1, i2⟩; rw [List.getElem?_append_left (by omega)] at i2; exact ⟨i, i1, i2⟩
    · have := H.hle
      simp; omega
    · have hjl := (List.getElem?_eq_some_iff.1 hj).1
      simp at hjl
      by_cases e : j < q.length
      · rw [List.getElem?_append_left e] at hj
        obtain ⟨i, i1, i2⟩ := H.ord j x hj u hu hx
        exact ⟨i, i1, by rw [List.getElem?_append_left (by omega)]; exact i2⟩
      · have ej : j = q.length := by omega
        subst ej
        simp at hj
        subst hj
        have hd : deg G S w G.n = 0 := by omega
        obtain ⟨i, i1, i2⟩ := (H.kS u).1 (deg_zero hd u hu hx)
        have := H.hle
        exact ⟨i, by omega, by rw [List.getElem?_append_left (by omega)]; exact i2⟩
  · rw [if_neg e0]
    refine ⟨hind, fun u hu => ?_, H.lt, H.nd, H.kS, H.hle, H.ord⟩
    by_cases e : u = w
    · subst e; rw [upd_same]
      exact ⟨fun h => absurd h hnq, fun h => absurd h e0⟩
    · rw [upd_other _ _ e]; exact H.mem u hu

theorem KM.len {S : Nat → Bool} {h : Nat} {r : List Nat} {ind : Nat → Int} {q : List Nat} (H : KM G S h r ind q) : q.length ≤ G.n := by
  have := cnt_nodup q H.nd H.lt
  omega

/-- When the queue is through. -/
theorem KM.last {comp : Nat → Int} {size : List Nat} (hG : G.ok) (hS : SCC G comp size) {S : Nat → Bool} {ind : Nat → Int} {q : List Nat} (H : KM G S q.length [] ind q) :
    q.length = G.n ↔ ∀ v, v < G.n → ¬ G.Cyc v := by
  have hc := cnt_nodup q H.nd H.lt
  constructor
  · rintro e v hv ⟨x, hx, hr⟩
    have hall := cntF_zero (show cntF (fun u => decide (u ∈ q)) G.n = 0 by omega)
    have hvq : v ∈ q := by simpa using hall v hv
    obtain ⟨p, hp⟩ := List.mem_iff_getElem?.1 hvq
    have := Reach.closed (S := fun y => y < G.n ∧ ∀ i, q[i]? = some y → p < i) (fun a b ha hb => ⟨hG a ha.1 b hb, fun i hi => by
      obtain ⟨j, j1, j2⟩ := H.ord i b hi a ha.1 hb
      have := ha.2 j j2
      omega⟩) hr ⟨hG v hv x hx, fun i hi => by
      obtain ⟨j, j1, j2⟩ := H.ord i x hi v hv hx
      have := nodup_pos H.nd j2 hp
      omega⟩
    have := this.2 p hp
    omega
  · intro hac
    have key : ∀ (m w : Nat), w < G.n → w ∉ q → (size.length : Int) ≤ comp w + (m : Int) → False := by
      intro m
      induction m with
      | zero =>
        intro w hw _ hm
        have := (hS.range w hw).2
        omega
      | succ m ih =>
        intro w hw hwq hm
        have h1 : ind w ≠ 0 := fun e => hwq ((H.mem w hw).2 e)
        rw [H.kind w hw] at h1
        obtain ⟨u, u1, u2, u3⟩ := deg_pos (G := G) (S := S) (w := w) (k := G.n) (by simp at h1; omega)
        have huq : u ∉ q := fun hm => by
          obtain ⟨i, hi⟩ := List.mem_iff_getElem?.1 hm
          have := (H.kS u).2 ⟨i, (List.getElem?_eq_some_iff.1 hi).1, hi⟩
          rw [u3] at this
          cases this
        refine ih u u1 huq ?_
        have h2 := hS.topo u w u1 u2
        have h3 : comp u ≠ comp w := fun e => hac u u1 ⟨w, u2, ((hS.same u w u1 hw).1 e).2⟩
        omega
    have h0 : cntF (fun u => decide (u ∈ q)) G.n = 0 := by
      apply Classical.byContradiction
      intro hne
      have : ∃ w, w < G.n ∧ w ∉ q := by
        apply Classical.byContradiction
        intro hno
        have hall : ∀ v, v < G.n → (fun u => decide (u ∈ q)) v = true := fun v hv => by
          simp
          exact Classical.byContradiction (fun hv2 => hno ⟨v, hv, hv2⟩)
        have h1 : cntF (fun u => decide (u ∈ q)) G.n = cntF (fun _ => true) G.n := cntF_congr hall
        have h2 : ∀ n, cntF (fun _ => true) n = 0 := by
          intro n
          induction n with
          | zero => rfl
          | succ k ih => unfold cntF; rw [ih]; simp
        rw [h1, h2] at hne
        exact hne rfl
      obtain ⟨w, w1, w2⟩ := this
      exact key size.length w w1 w2 (by have := (hS.range w w1).1; omega)
    omega

/-- A plain search from s: what its loops keep. In hand: a vertex, and those of its edges that are looked at. -/
structure RM (G : Gr) (s : Nat) (hand : Option (Nat × List Nat)) (seen : Nat → Bool) (stk : List Nat) : Prop where
  src : seen s = true
  reach : ∀ u, seen u = true → u < G.n ∧ G.Reach s u
  rstk : ∀ u, u ∈ stk → seen u = true
  closed : ∀ u, seen u = true → u ∉ stk → (∀ p, hand = some p → u ≠ p.1) → ∀ x, x ∈ G.adj u → seen x = true
  rhand : ∀ p, hand = some p → seen p.1 = true ∧ ∀ x, x ∈ p.2 → seen x = true
  cnt : stk.length + cntF seen G.n ≤ G.n

theorem RM.init {s : Nat} (hs : s < G.n) : RM G s none (upd (fun _ => false) s true) [s] := by
  have h1 := cntF_upd (f := fun _ => false) hs rfl
  rw [cntF_all] at h1
  have hu : ∀ u, upd (fun _ => false) s true u = true → u = s := fun u h => by
    by_cases e : u = s
    · exact e
    · rw [upd_other _ _ e] at h; cases h
  refine ⟨upd_same _ _ _, fun u h => ?_, fun u h => ?_, fun u h hn => ?_, fun p h => (by cases h), by simp; omega⟩
  · rw [hu u h]; exact ⟨hs, Reach.refl s⟩
  · simp at h; rw [h]; exact upd_same _ _ _
  · rw [hu u h] at hn; simp at hn

theorem RM.pop {s v : Nat} {seen : Nat → Bool} {r : List Nat} (H : RM G s none seen (r ++ [v])) : v < G.n ∧ RM G s (some (v, [])) seen r := by
  have hv := H.rstk v (by simp)
  refine ⟨(H.reach v hv).1, H.src, H.reach, fun u hu => H.rstk u (by simp [hu]), fun u h1 h2 h3 => ?_, ?_, ?_⟩
  · have hne := h3 _ rfl
    exact H.closed u h1 (by simp [h2, hne]) (fun p h => (by cases h))
  · rintro p hp
    cases hp
    exact ⟨hv, fun x hx => (by cases hx)⟩
  · have := H.cnt
    simp at this
    omega

theorem RM.old {s v w : Nat} {seen : Nat → Bool} {l r : List Nat} (H : RM G s (some (v, l)) seen r) (hw : seen w = true) : RM G s (some (v, l ++ [w])) seen r := by
  refine ⟨H.src, H.reach, H.rstk, fun u h1 h2 h3 => H.closed u h1 h2 (fun p hp => ?_), ?_, H.cnt⟩
  · cases hp
    exact h3 (v, l ++ [w]) rfl
  · rintro p hp
    cases hp
    obtain ⟨h1, h2⟩ := H.rhand _ rfl
    refine ⟨h1, fun x hx => ?_⟩
    rcases List.mem_append.1 hx with h | h
    · exact h2 x h
    · simp at h; rw [h]; exact hw

theorem RM.push {s v w : Nat} {seen : Nat → Bool} {l r : List Nat} (H : RM G s (some (v, l)) seen r) (hwv : w ∈ G.adj v) (hwn : w < G.n) (hw : seen w = false) : RM G s (some (v, l ++ [w])) (upd seen w true) (r ++ [w]) := by
  have hm : ∀ u, seen u = true → upd seen w true u = true := fun u hu => by
    by_cases e : u = w
    · subst e; exact upd_same _ _ _
    · rw [upd_other _ _ e]; exact hu
  obtain ⟨hv, hl⟩ := H.rhand _ rfl
  have hc := cntF_upd hwn hw
  refine ⟨hm _ H.src, fun u hu => ?_, fun u hu => ?_, fun u h1 h2 h3 x hx => ?_, ?_, ?_⟩
  · by_cases e : u = w
    · subst e; exact ⟨hwn, Reach.trans (H.reach v hv).2 (Reach.edge hwv)⟩
    · rw [upd_other _ _ e] at hu; exact H.reach u hu
  · rcases List.mem_append.1 hu with h | h
    · exact hm u (H.rstk u h)
    · simp at h; rw [h]; exact upd_same _ _ _
  · have hne : u ≠ w := fun e => h2 (by simp [e])
    rw [upd_other _ _ hne] at h1
    exact hm x (H.closed u h1 (fun h => h2 (by simp [h])) (fun p hp => by cases hp; exact h3 (v, l ++ [w]) rfl) x hx)
  · rintro p hp
    cases hp
    refine ⟨hm v hv, fun x hx => ?_⟩
    rcases List.mem_append.1 hx with h | h
    · exact hm x (hl x h)
    · simp at h; rw [h]; exact upd_same _ _ _
  · have := H.cnt
    simp
    omega

theorem RM.through {s v : Nat} {seen : Nat → Bool} {r : List Nat} (H : RM G s (some (v, G.adj v)) seen r) : RM G s none seen r := by
  obtain ⟨hv, hl⟩ := H.rhand _ rfl
  refine ⟨H.src, H.reach, H.rstk, fun u h1 h2 _ x hx => ?_, fun p h => (by cases h), H.cnt⟩
  by_cases e : u = v
  · subst e; exact hl x hx
  · exact H.closed u h1 h2 (fun p hp => by cases hp; exact e) x hx

theorem RM.last {s : Nat} {seen : Nat → Bool} (H : RM G s none seen []) (w : Nat) : seen w = true ↔ G.Reach s w :=
  ⟨fun h => (H.reach w h).2, fun h => Reach.closed (S := fun x => seen x = true) (fun x y hx hy => H.closed x hx (by simp) (fun p h => (by cases h)) y hy) h H.src⟩
end
end Go.Proofs.Qxb6001235a
