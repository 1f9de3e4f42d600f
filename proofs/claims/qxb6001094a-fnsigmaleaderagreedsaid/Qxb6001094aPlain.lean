/-! Seat b6001094a: the plain functions behind the Sigma laws, and the plain laws. No Go in sight. -/
namespace Go.Proofs.Qxb6001094a
set_option linter.unusedVariables false

/-- What a run's judge is handed: n processes, their identities f, crash times g, last leaders dl, leader times sl, the end e; of each last output whether it is nil, its length L and its numbers R. -/
structure Prm where
  n : Nat
  f : Nat → Int
  g : Nat → Int
  dl : Nat → Int
  sl : Nat → Int
  e : Int
  nil : Nat → Bool
  L : Nat → Nat
  R : Nat → Nat → Int

variable (p : Prm) (cor : Int → Bool)

def Prm.c (i : Nat) : Bool := p.g i == p.e
def Prm.cmpl : Nat → Bool
  | 0 => true
  | k + 1 => if p.c k then (if p.nil k then false else (cmpl k && (List.range (p.L k)).all fun j => cor (p.R k j))) else cmpl k
def Prm.nmd : Nat → Bool
  | 0 => false
  | k + 1 => if p.c k && !p.nil k then true else nmd k
def Prm.ldr : Nat → Int
  | 0 => 0
  | k + 1 => if p.c k && !p.nil k then p.dl k else ldr k
def Prm.frm : Nat → Int
  | 0 => 0
  | k + 1 => if p.c k && !p.nil k then max (frm k) (p.sl k) else frm k
def Prm.agr : Nat → Bool
  | 0 => true
  | k + 1 => if p.c k then (if p.nil k then false else (if p.nmd k && (p.dl k != p.ldr k) then false else agr k)) else agr k
def Prm.outs (k : Nat) : List Nat := (List.range k).filter p.c

theorem Prm.outs_succ (k : Nat) : p.outs (k + 1) = if p.c k then p.outs k ++ [k] else p.outs k := by
  unfold Prm.outs
  rw [List.range_succ, List.filter_append]
  by_cases h : p.c k <;> simp [h]

theorem Prm.outs_le (k : Nat) : (p.outs k).length ≤ k := by
  have := List.length_filter_le p.c (List.range k)
  simpa [Prm.outs] using this

theorem Prm.outs_prefix {i n : Nat} (h : i ≤ n) : ∃ r, p.outs n = p.outs i ++ r := by
  induction n with
  | zero => exact ⟨[], by have : i = 0 := by omega
                          subst this; simp⟩
  | succ n ih =>
    by_cases e : i = n + 1
    · subst e; exact ⟨[], by simp⟩
    · obtain ⟨r, hr⟩ := ih (by omega)
      rw [p.outs_succ, hr]
      by_cases h : p.c n
      · exact ⟨r ++ [n], by simp [h]⟩
      · exact ⟨r, by simp [h]⟩

theorem Prm.outs_at {i n : Nat} (h : i < n) (hc : p.c i = true) : (p.outs n)[(p.outs i).length]? = some i := by
  obtain ⟨r, hr⟩ := p.outs_prefix (i := i + 1) (n := n) (by omega)
  rw [hr, p.outs_succ, if_pos hc]
  simp

/-! ### the loops of the law on the leader -/
def Prm.any : Nat → Bool
  | 0 => false
  | k + 1 => if p.c k then true else any k
def Prm.allOut : Nat → Bool
  | 0 => true
  | k + 1 => if p.c k then (if p.nil k then false else allOut k) else allOut k
def Prm.seen : Nat → Bool
  | 0 => false
  | k + 1 => if p.c k && !p.nil k then true else seen k
def Prm.first : Nat → Int
  | 0 => 0
  | k + 1 => if p.c k && !p.nil k then (if p.seen k then first k else p.dl k) else first k
def Prm.same : Nat → Bool
  | 0 => true
  | k + 1 => if p.c k && !p.nil k then (if p.seen k then (if p.dl k != p.first k then false else same k) else same k) else same k

theorem Prm.seen_nmd (k : Nat) : p.seen k = p.nmd k := by
  induction k with
  | zero => rfl
  | succ k ih => simp [Prm.seen, Prm.nmd, ih]

/-- While all agree, the leader is the first one named; and 'agreed' is 'all gave an output and named the same'. -/
theorem Prm.agr_eq (k : Nat) : p.agr k = (p.allOut k && p.same k) ∧ (p.agr k = true → p.nmd k = true → p.ldr k = p.first k) := by
  induction k with
  | zero => exact ⟨rfl, fun _ h => by cases h⟩
  | succ k ih =>
    obtain ⟨i1, i2⟩ := ih
    have hs := p.seen_nmd k
    by_cases hc : p.c k
    · by_cases hn : p.nil k
      · simp [Prm.agr, Prm.allOut, hc, hn]
      · have hn' : p.nil k = false := by simpa using hn
        by_cases hm : p.nmd k
        · by_cases ha : p.agr k
          · have e := i2 ha hm
            by_cases hd : p.dl k = p.ldr k
            · have hd2 : p.dl k = p.first k := by rw [hd, e]
              constructor
              · simp [Prm.agr, Prm.allOut, Prm.same, hc, hn', hm, hs, hd, i1, e]
              · intro _ _
                simp [Prm.ldr, Prm.first, hc, hn', hm, hs, hd2]
            · have hd2 : ¬ p.dl k = p.first k := by rw [← e]; exact hd
              constructor
              · simp [Prm.agr, Prm.allOut, Prm.same, hc, hn', hm, hs, hd, hd2]
              · intro h
                simp [Prm.agr, hc, hn', hm, hd] at h
          · have ha' : p.agr k = false := by simpa using ha
            constructor
            · rw [ha'] at i1
              have : (p.allOut k && p.same k) = false := i1.symm
              simp only [Prm.agr, Prm.allOut, Prm.same, hc, hn', hm, hs, ha']
              by_cases hd : p.dl k != p.first k <;> by_cases hd2 : p.dl k != p.ldr k <;> simp [hd, hd2] <;> simpa using this
            · intro h
              simp [Prm.agr, hc, hn', hm, ha'] at h
        · have hm' : p.nmd k = false := by simpa using hm
          constructor
          · simp [Prm.agr, Prm.allOut, Prm.same, hc, hn', hm', hs, i1]
          · intro _ _
            simp [Prm.ldr, Prm.first, hc, hn', hm', hs]
    · simpa [Prm.agr, Prm.allOut, Prm.same, Prm.nmd, Prm.ldr, Prm.first, hc] using ⟨i1, i2⟩

/-- Where every process that never crashes gave an output, one is named just if there is one. -/
theorem Prm.nmd_any (k : Nat) (h : p.allOut k = true) : p.nmd k = p.any k := by
  induction k with
  | zero => rfl
  | succ k ih =>
    by_cases hc : p.c k
    · by_cases hn : p.nil k
      · simp [Prm.allOut, hc, hn] at h
      · simp [Prm.nmd, Prm.any, hc, hn]
    · simp [Prm.allOut, hc] at h
      simpa [Prm.nmd, Prm.any, hc] using ih h

theorem Prm.agreed_eq (k : Nat) : (p.nmd k && p.agr k) = (p.any k && p.allOut k && p.same k) := by
  have h := (p.agr_eq k).1
  by_cases ha : p.allOut k
  · rw [h, p.nmd_any k ha, Bool.and_assoc]
  · have : p.agr k = false := by rw [h]; simp [ha]
    simp [this, ha]

theorem Prm.first_eq (k : Nat) (h : (p.nmd k && p.agr k) = true) : p.ldr k = p.first k := by
  simp at h
  exact (p.agr_eq k).2 h.2 h.1

theorem Prm.allOut_nil {k i : Nat} (h : p.allOut k = true) (hi : i < k) (hc : p.c i = true) : p.nil i = false := by
  induction k with
  | zero => omega
  | succ k ih =>
    by_cases e : i = k
    · subst e
      cases hn : p.nil i
      · rfl
      · simp [Prm.allOut, hc, hn] at h
    · refine ih ?_ (by omega)
      by_cases hck : p.c k
      · by_cases hn : p.nil k
        · simp [Prm.allOut, hck, hn] at h
        · simpa [Prm.allOut, hck, hn] using h
      · simpa [Prm.allOut, hck] using h

theorem Prm.frm_nonneg (k : Nat) : 0 ≤ p.frm k := by
  induction k with
  | zero => exact Int.le_refl 0
  | succ k ih => unfold Prm.frm; split <;> omega

theorem Prm.frm_ge {k i : Nat} (hi : i < k) (hc : p.c i = true) (hn : p.nil i = false) : p.sl i ≤ p.frm k := by
  induction k with
  | zero => omega
  | succ k ih =>
    unfold Prm.frm
    by_cases e : i = k
    · subst e; simp [hc, hn]; omega
    · have := ih (by omega)
      split <;> omega

/-- The greatest time is 0 or one of the times. -/
theorem Prm.frm_hit (k : Nat) : p.frm k = 0 ∨ ∃ i, i < k ∧ p.c i = true ∧ p.sl i = p.frm k := by
  induction k with
  | zero => exact .inl rfl
  | succ k ih =>
    unfold Prm.frm
    by_cases hc : (p.c k && !p.nil k) = true
    · rw [if_pos hc]
      simp at hc
      by_cases hm : p.sl k ≤ p.frm k
      · rw [Int.max_eq_left hm]
        rcases ih with h | ⟨i, h1, h2, h3⟩
        · exact .inl h
        · exact .inr ⟨i, by omega, h2, h3⟩
      · exact .inr ⟨k, by omega, hc.1, by omega⟩
    · rw [if_neg hc]
      rcases ih with h | ⟨i, h1, h2, h3⟩
      · exact .inl h
      · exact .inr ⟨i, by omega, h2, h3⟩

/-- The law's own search for a time that hits. -/
def Prm.hit (t : Int) : Nat → Bool
  | 0 => t == 0
  | k + 1 => if p.c k then (if p.sl k == t then true else hit t k) else hit t k
theorem Prm.hit_of_zero (k : Nat) : p.hit 0 k = true := by
  induction k with
  | zero => rfl
  | succ k ih => unfold Prm.hit; split <;> simp [ih]
theorem Prm.hit_of {t : Int} {k i : Nat} (hi : i < k) (hc : p.c i = true) (h : p.sl i = t) : p.hit t k = true := by
  induction k with
  | zero => omega
  | succ k ih =>
    unfold Prm.hit
    by_cases e : i = k
    · subst e; simp [hc, h]
    · have := ih (by omega)
      split
      · split
        · rfl
        · exact this
      · exact this
theorem Prm.hit_frm (k : Nat) : p.hit (p.frm k) k = true := by
  rcases p.frm_hit k with h | ⟨i, h1, h2, h3⟩
  · rw [h]; exact p.hit_of_zero k
  · exact p.hit_of h1 h2 h3

theorem Prm.cmpl_congr {q : Prm} {cor' : Int → Bool} (hg : q.g = p.g) (he : q.e = p.e) (hn : q.nil = p.nil) (hL : q.L = p.L) (hR : q.R = p.R) (hc : ∀ x, cor x = cor' x) (k : Nat) : p.cmpl cor k = q.cmpl cor' k := by
  induction k with
  | zero => rfl
  | succ k ih =>
    have e1 : q.c k = p.c k := by unfold Prm.c; rw [hg, he]
    unfold Prm.cmpl
    rw [e1, hn, hL, hR, ih]
    simp only [hc]
end Go.Proofs.Qxb6001094a
