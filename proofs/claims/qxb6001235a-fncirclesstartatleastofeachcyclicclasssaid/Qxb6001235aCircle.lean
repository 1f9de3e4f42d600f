import Derived.Test.Qxb6001235aGraph
/-! Seat b6001235a: the search for a circle through a vertex, as a plain function. No Go in sight. -/
namespace Go.Proofs.Qxb6001235a
set_option linter.unusedVariables false

/-- How many vertices below k are not marked. -/
def cntF (f : Nat → Bool) : Nat → Nat
  | 0 => 0
  | k + 1 => cntF f k + if f k = false then 1 else 0
theorem cntF_le (f : Nat → Bool) : ∀ k, cntF f k ≤ k := by
  intro k
  induction k with
  | zero => exact Nat.le_refl _
  | succ k ih => unfold cntF; split <;> omega
theorem cntF_congr {f g : Nat → Bool} {n : Nat} (h : ∀ v, v < n → f v = g v) : cntF f n = cntF g n := by
  induction n with
  | zero => rfl
  | succ k ih => unfold cntF; rw [ih (fun v hv => h v (by omega)), h k (by omega)]
theorem cntF_upd {f : Nat → Bool} {v n : Nat} (hv : v < n) (hw : f v = false) : cntF (upd f v true) n + 1 = cntF f n := by
  induction n with
  | zero => omega
  | succ k ih =>
    unfold cntF
    by_cases e : v = k
    · subst e
      have h1 : cntF (upd f v true) v = cntF f v := cntF_congr (fun u hu => upd_other _ _ (by omega))
      rw [h1, hw, upd_same]
      simp
    · have := ih (by omega)
      rw [upd_other _ _ (show k ≠ v by omega)]
      omega
theorem cntF_all (n : Nat) : cntF (fun _ => false) n = n := by
  induction n with
  | zero => rfl
  | succ k ih => unfold cntF; rw [ih]; simp

/-- The state of the search: the path in its order, and the marked vertices. -/
structure CS where
  path : List Nat
  vis : Nat → Bool

def loopC (comp : Nat → Int) (start : Nat) (rec : Nat → CS → Bool × CS) : List Nat → CS → Bool × CS
  | [], s => (false, s)
  | w :: r, s =>
    if w = start then (true, { s with path := s.path ++ [start] })
    else if comp w = comp start ∧ s.vis w = false then
      (if (rec w ⟨s.path ++ [w], upd s.vis w true⟩).1 = true then (true, (rec w ⟨s.path ++ [w], upd s.vis w true⟩).2)
       else loopC comp start rec r { (rec w ⟨s.path ++ [w], upd s.vis w true⟩).2 with path := (rec w ⟨s.path ++ [w], upd s.vis w true⟩).2.path.dropLast })
    else loopC comp start rec r s

def walkC (G : Gr) (comp : Nat → Int) (start : Nat) : Nat → Nat → CS → Bool × CS
  | 0, _, s => (false, s)
  | f + 1, v, s => loopC comp start (walkC G comp start f) (G.adj v) s

/-- A walk along edges. -/
def Gr.Walk (G : Gr) : Nat → List Nat → Prop
  | _, [] => True
  | v, x :: r => x ∈ G.adj v ∧ G.Walk x r

structure Dead (G : Gr) (comp : Nat → Int) (start : Nat) (s : CS) (u : Nat) : Prop where
  no : start ∉ G.adj u
  all : ∀ x, x ∈ G.adj u → comp x = comp start → s.vis x = true

/-- What the loop over l, edges of v, comes to. -/
structure LP (G : Gr) (comp : Nat → Int) (start v : Nat) (l : List Nat) (s : CS) (b : Bool) (s' : CS) : Prop where
  mono : ∀ u, s.vis u = true → s'.vis u = true
  new : ∀ u, s'.vis u = true → s.vis u = true ∨ (u < G.n ∧ comp u = comp start ∧ u ≠ start)
  cnt : s'.path.length + cntF s'.vis G.n ≤ s.path.length + cntF s.vis G.n + (if b = true then 1 else 0)
  cnt2 : cntF s'.vis G.n ≤ cntF s.vis G.n
  no : b = false → s'.path = s.path ∧ (∀ u, s'.vis u = true → s.vis u = false → Dead G comp start s' u) ∧ ∀ x, x ∈ l → x ≠ start ∧ (comp x = comp start → s'.vis x = true)
  yes : b = true → ∃ q, s'.path = s.path ++ q ++ [start] ∧ G.Walk v (q ++ [start]) ∧ q.Nodup ∧ ∀ x, x ∈ q → s.vis x = false ∧ x < G.n ∧ comp x = comp start ∧ x ≠ start

section
variable {G : Gr} {comp : Nat → Int} {start : Nat}

theorem Dead.mono {s s' : CS} {u : Nat} (h : Dead G comp start s u) (hm : ∀ x, s.vis x = true → s'.vis x = true) : Dead G comp start s' u := ⟨h.no, fun x hx e => hm x (h.all x hx e)⟩

theorem loopC_LP (hG : G.ok) {rec : Nat → CS → Bool × CS} {v fuel : Nat} (hv : v < G.n)
    (ih : ∀ (w : Nat) (s : CS), w < G.n → cntF s.vis G.n < fuel → LP G comp start w (G.adj w) s (rec w s).1 (rec w s).2) :
    ∀ (l : List Nat) (s : CS), (∀ x, x ∈ l → x ∈ G.adj v) → cntF s.vis G.n < fuel + 1 → LP G comp start v l s (loopC comp start rec l s).1 (loopC comp start rec l s).2 := by
  intro l
  induction l with
  | nil =>
    intro s _ _
    refine ⟨fun u h => h, fun u h => Or.inl h, by simp [loopC], Nat.le_refl _, fun _ => ⟨rfl, fun u h1 h2 => ?_, fun x hx => (by cases hx)⟩, fun h => (by cases h)⟩
    have h1 : s.vis u = true := h1
    rw [h1] at h2
    cases h2
  | cons w r ihl =>
    intro s hl hc
    unfold loopC
    by_cases e1 : w = start
    · rw [if_pos e1]
      refine ⟨fun u h => h, fun u h => Or.inl h, by simp; omega, Nat.le_refl _, fun h => (by cases h), fun _ => ⟨[], by simp, ⟨?_, trivial⟩, List.nodup_nil, fun x hx => (by cases hx)⟩⟩
      rw [← e1]
      exact hl w List.mem_cons_self
    · rw [if_neg e1]
      have hwv : w ∈ G.adj v := hl w List.mem_cons_self
      have hw : w < G.n := hG v hv w hwv
      by_cases e2 : comp w = comp start ∧ s.vis w = false
      · rw [if_pos e2]
        obtain ⟨ec, ev⟩ := e2
        have hcu := cntF_upd hw ev
        have hr := ih w ⟨s.path ++ [w], upd s.vis w true⟩ hw (by show cntF (upd s.vis w true) G.n < fuel; omega)
        generalize hq : rec w ⟨s.path ++ [w], upd s.vis w true⟩ = q at hr ⊢
        obtain ⟨b, s1⟩ := q
        have um : ∀ u, s.vis u = true → upd s.vis w true u = true := by
          intro u hu
          by_cases e : u = w
          · subst e; exact upd_same _ _ _
          · rw [upd_other _ _ e]; exact hu
        have un : ∀ u, upd s.vis w true u = true → s.vis u = true ∨ u = w := by
          intro u hu
          by_cases e : u = w
          · exact Or.inr e
          · rw [upd_other _ _ e] at hu; exact Or.inl hu
        have hm1 : ∀ u, s.vis u = true → s1.vis u = true := fun u hu => hr.mono u (um u hu)
        have hw1 : s1.vis w = true := hr.mono w (upd_same _ _ _)
        have hn1 : ∀ u, s1.vis u = true → s.vis u = true ∨ (u < G.n ∧ comp u = comp start ∧ u ≠ start) := by
          intro u hu
          rcases hr.new u hu with h | h
          · rcases un u h with h | h
            · exact Or.inl h
            · subst h; exact Or.inr ⟨hw, ec, e1⟩
          · exact Or.inr h
        have hk := hr.cnt
        have hk2 := hr.cnt2
        simp only [List.length_append, List.length_cons, List.length_nil] at hk hk2
        by_cases eb : b = true
        · subst eb
          simp only [if_true]
          refine ⟨hm1, hn1, by simp at hk ⊢; omega, by omega, fun h => (by cases h), fun _ => ?_⟩
          obtain ⟨q, q1, q2, q3, q4⟩ := hr.yes rfl
          have hwq : w ∉ q := fun h => by
            have := (q4 w h).1
            simp only [upd_same] at this
            cases this
          refine ⟨w :: q, ?_, ⟨hwv, q2⟩, List.nodup_cons.2 ⟨hwq, q3⟩, ?_⟩
          · rw [q1]; simp
          · intro x hx
            rcases List.mem_cons.1 hx with e | hx
            · subst e; exact ⟨ev, hw, ec, e1⟩
            · obtain ⟨a1, a2⟩ := q4 x hx
              have hne : x ≠ w := fun e => hwq (e ▸ hx)
              simp only [upd_other _ _ hne] at a1
              exact ⟨a1, a2⟩
        · have eb' : b = false := by cases b <;> simp_all
          subst eb'
          simp only [Bool.false_eq_true, if_false]
          obtain ⟨n1, n2, n3⟩ := hr.no rfl
          have hp : s1.path.dropLast = s.path := by rw [n1]; simp
          simp only at n1 n2 n3
          rw [hp]
          simp only [Bool.false_eq_true, if_false] at hk
          have hl2 := ihl ⟨s.path, s1.vis⟩ (fun x hx => hl x (List.mem_cons_of_mem _ hx)) (by show cntF s1.vis G.n < fuel + 1; omega)
          have hd1 : ∀ u, s1.vis u = true → s.vis u = false → Dead G comp start s1 u := by
            intro u h1 h2
            by_cases e : u = w
            · subst e; exact ⟨fun h => (n3 start h).1 rfl, fun x hx e => (n3 x hx).2 e⟩
            · exact n2 u h1 (by rw [upd_other _ _ e]; exact h2)
          have hk3 := hl2.cnt
          have hk4 := hl2.cnt2
          simp only at hk3 hk4
          refine ⟨fun u h => hl2.mono u (hm1 u h), ?_, by omega, by omega, fun hb => ?_, fun hb => ?_⟩
          · intro u hu
            rcases hl2.new u hu with h | h
            · exact hn1 u h
            · exact Or.inr h
          · obtain ⟨m1, m2, m3⟩ := hl2.no hb
            refine ⟨m1, fun u h1 h2 => ?_, fun x hx => ?_⟩
            · by_cases e : s1.vis u = true
              · exact (hd1 u e h2).mono (fun x hx => hl2.mono x hx)
              · exact m2 u h1 (by simpa using e)
            · rcases List.mem_cons.1 hx with e | hx
              · subst e; exact ⟨e1, fun _ => hl2.mono x hw1⟩
              · exact m3 x hx
          · obtain ⟨q, q1, q2, q3, q4⟩ := hl2.yes hb
            refine ⟨q, q1, q2, q3, fun x hx => ?_⟩
            obtain ⟨a1, a2⟩ := q4 x hx
            refine ⟨?_, a2⟩
            by_cases e : s.vis x = true
            · have := hm1 x e
              simp only [this] at a1
              cases a1
            · simpa using e
      · rw [if_neg e2]
        have hl2 := ihl s (fun x hx => hl x (List.mem_cons_of_mem _ hx)) hc
        refine ⟨hl2.mono, hl2.new, hl2.cnt, hl2.cnt2, fun hb => ?_, hl2.yes⟩
        obtain ⟨m1, m2, m3⟩ := hl2.no hb
        refine ⟨m1, m2, fun x hx => ?_⟩
        rcases List.mem_cons.1 hx with e | hx
        · subst e
          refine ⟨e1, fun e => hl2.mono x ?_⟩
          by_cases ev : s.vis x = true
          · exact ev
          · exact absurd ⟨e, by simpa using ev⟩ e2
        · exact m3 x hx

theorem walkC_LP (hG : G.ok) : ∀ (fuel v : Nat) (s : CS), v < G.n → cntF s.vis G.n < fuel → LP G comp start v (G.adj v) s (walkC G comp start fuel v s).1 (walkC G comp start fuel v s).2 := by
  intro fuel
  induction fuel with
  | zero => intro v s _ h; omega
  | succ fuel ih =>
    intro v s hv hc
    exact loopC_LP hG hv ih (G.adj v) s (fun x hx => hx) hc

/-- The circle that the search finds. -/
def circ (G : Gr) (comp : Nat → Int) (start : Nat) : List Nat := (walkC G comp start (G.n + 1) start ⟨[start], fun _ => false⟩).2.path

/-- v lies on a circle. -/
def Gr.Cyc (G : Gr) (v : Nat) : Prop := ∃ x, x ∈ G.adj v ∧ G.Reach x v

theorem circ_some {size : List Nat} (hG : G.ok) (hS : SCC G comp size) (hs : start < G.n) (hc : G.Cyc start) :
    ∃ q, circ G comp start = start :: (q ++ [start]) ∧ G.Walk start (q ++ [start]) ∧ q.Nodup ∧ ∀ x, x ∈ q → x < G.n ∧ comp x = comp start ∧ x ≠ start := by
  have h := walkC_LP (comp := comp) (start := start) hG (G.n + 1) start ⟨[start], fun _ => false⟩ hs (by have := cntF_le (fun _ => false) G.n; show cntF (fun _ => false) G.n < _; omega)
  unfold circ
  generalize walkC G comp start (G.n + 1) start ⟨[start], fun _ => false⟩ = p at h ⊢
  obtain ⟨b, s'⟩ := p
  cases b with
  | true =>
    obtain ⟨q, q1, q2, q3, q4⟩ := h.yes rfl
    exact ⟨q, by rw [q1]; simp, q2, q3, fun x hx => (q4 x hx).2⟩
  | false =>
    exfalso
    obtain ⟨_, n2, n3⟩ := h.no rfl
    obtain ⟨x, hx, k, hk⟩ := hc
    have key : ∀ k u, s'.vis u = true → u < G.n → G.Reach start u → G.steps k u start → False := by
      intro k
      induction k with
      | zero =>
        intro u hu hun hr e
        have e : u = start := e
        rcases h.new u hu with h | h
        · cases h
        · exact h.2.2 e
      | succ k ih =>
        rintro u hu hun hr ⟨y, hy, hys⟩
        have hd := n2 u hu rfl
        have hyn := hG u hun y hy
        have hry : G.Reach start y := Reach.trans hr (Reach.edge hy)
        have := (hS.same y start hyn hs).2 ⟨⟨k, hys⟩, hry⟩
        exact ih y (hd.all y hy this) hyn hry hys
    have hxn := hG start hs x hx
    have := (hS.same x start hxn hs).2 ⟨⟨k, hk⟩, Reach.edge hx⟩
    exact key k x ((n3 x hx).2 this) hxn (Reach.edge hx) hk

/-- The size of a component, by its number. -/
def sizeAt (size : List Nat) (c : Int) : Nat := size.getD c.toNat 0
/-- v is the lowest of its component. -/
def first (comp : Nat → Int) (v : Nat) : Bool := (List.range v).all (fun u => decide (comp u ≠ comp v))
def isCyc (G : Gr) (comp : Nat → Int) (size : List Nat) (v : Nat) : Bool := decide (1 < sizeAt size (comp v)) || decide (v ∈ G.adj v)
def isStart (G : Gr) (comp : Nat → Int) (size : List Nat) (v : Nat) : Bool := first comp v && isCyc G comp size v
/-- The starts of the circles, in their order, of the vertices below k. -/
def starts (G : Gr) (comp : Nat → Int) (size : List Nat) (k : Nat) : List Nat := (List.range k).filter (isStart G comp size)

theorem first_iff {v : Nat} : first comp v = true ↔ ∀ u, u < v → comp u ≠ comp v := by
  simp [first, List.all_eq_true]

theorem starts_succ {size : List Nat} (k : Nat) : starts G comp size (k + 1) = starts G comp size k ++ if isStart G comp size k = true then [k] else [] := by
  unfold starts
  rw [List.range_succ, List.filter_append]
  congr 1
  by_cases e : isStart G comp size k = true
  · simp [e]
  · simp [e]

theorem isCyc_iff {size : List Nat} (hG : G.ok) (hS : SCC G comp size) {v : Nat} (hv : v < G.n) : isCyc G comp size v = true ↔ G.Cyc v := by
  obtain ⟨r1, r2⟩ := hS.range v hv
  obtain ⟨C, c1, c2, c3⟩ := hS.sizes (comp v).toNat (by omega)
  have hc : ((comp v).toNat : Int) = comp v := by omega
  rw [hc] at c3
  have hsz : sizeAt size (comp v) = C.length := by
    unfold sizeAt
    rw [List.getD_eq_getElem?_getD, c2]; rfl
  have hvC : v ∈ C := (c3 v).2 ⟨hv, rfl⟩
  unfold isCyc
  rw [hsz, Bool.or_eq_true, decide_eq_true_eq, decide_eq_true_eq]
  constructor
  · rintro (h | h)
    · have : ∃ u, u ∈ C ∧ u ≠ v := by
        match C, c1, h, hvC with
        | [_], _, h, _ => simp at h
        | a :: b :: r, c1, h, _ =>
          by_cases e : a = v
          · refine ⟨b, by simp, fun e2 => ?_⟩
            subst e2
            subst e
            simp at c1
          · exact ⟨a, by simp, e⟩
      obtain ⟨u, hu, hne⟩ := this
      obtain ⟨hun, huc⟩ := (c3 u).1 hu
      obtain ⟨⟨k, hk⟩, h2⟩ := (hS.same v u hv hun).1 huc.symm
      match k, hk with
      | 0, hk => exact absurd (show u = v from Eq.symm hk) hne
      | k + 1, ⟨x, hx, hr⟩ => exact ⟨x, hx, Reach.trans ⟨k, hr⟩ h2⟩
    · exact ⟨v, h, Reach.refl v⟩
  · rintro ⟨x, hx, hr⟩
    by_cases e : x = v
    · subst e; exact Or.inr hx
    · left
      have hxn := hG v hv x hx
      have hxC : x ∈ C := (c3 x).2 ⟨hxn, (hS.same x v hxn hv).2 ⟨hr, Reach.edge hx⟩⟩
      match C, hvC, hxC with
      | [a], h1, h2 => simp at h1 h2; exact absurd (h2.trans h1.symm) e
      | a :: b :: r, _, _ => simp

theorem mem_starts {size : List Nat} (hG : G.ok) (hS : SCC G comp size) {v : Nat} : v ∈ starts G comp size G.n ↔ v < G.n ∧ (∀ u, u < v → comp u ≠ comp v) ∧ G.Cyc v := by
  unfold starts
  rw [List.mem_filter, List.mem_range]
  constructor
  · rintro ⟨h1, h2⟩
    unfold isStart at h2
    rw [Bool.and_eq_true] at h2
    exact ⟨h1, first_iff.1 h2.1, (isCyc_iff hG hS h1).1 h2.2⟩
  · rintro ⟨h1, h2, h3⟩
    refine ⟨h1, ?_⟩
    unfold isStart
    rw [Bool.and_eq_true]
    exact ⟨first_iff.2 h2, (isCyc_iff hG hS h1).2 h3⟩

/-- Which vertex lies on a circle is a matter of its component. -/
theorem cyc_class {size : List Nat} (hS : SCC G comp size) {u v : Nat} (hu : u < G.n) (hv : v < G.n) (e : comp u = comp v) (h : G.Cyc v) : G.Cyc u := by
  by_cases ne : u = v
  · subst ne; exact h
  · obtain ⟨⟨k, hk⟩, h2⟩ := (hS.same u v hu hv).1 e
    match k, hk with
    | 0, hk => exact absurd hk ne
    | k + 1, ⟨x, hx, hr⟩ => exact ⟨x, hx, Reach.trans ⟨k, hr⟩ h2⟩

theorem least_of (v : Nat) : ∃ u, u ≤ v ∧ comp u = comp v ∧ ∀ x, x < u → comp x ≠ comp u := by
  induction v using Nat.strongRecOn with
  | _ v ih =>
    by_cases h : ∃ x, x < v ∧ comp x = comp v
    · obtain ⟨x, h1, h2⟩ := h
      obtain ⟨u, u1, u2, u3⟩ := ih x h1
      exact ⟨u, by omega, u2.trans h2, u3⟩
    · exact ⟨v, Nat.le_refl _, rfl, fun x hx e => h ⟨x, hx, e⟩⟩

theorem starts_nil {size : List Nat} (hG : G.ok) (hS : SCC G comp size) : starts G comp size G.n = [] ↔ ∀ v, v < G.n → ¬ G.Cyc v := by
  constructor
  · intro h v hv hc
    obtain ⟨u, u1, u2, u3⟩ := least_of (comp := comp) v
    have : u ∈ starts G comp size G.n := (mem_starts hG hS).2 ⟨by omega, u3, cyc_class hS (by omega) hv u2 hc⟩
    rw [h] at this
    cases this
  · intro h
    apply List.eq_nil_iff_forall_not_mem.2
    intro v hv
    obtain ⟨h1, _, h3⟩ := (mem_starts hG hS).1 hv
    exact h v h1 h3

theorem starts_lt {size : List Nat} (k : Nat) : (starts G comp size k).Pairwise (· < ·) := List.Pairwise.filter _ List.pairwise_lt_range
theorem starts_le {size : List Nat} (k : Nat) : (starts G comp size k).length ≤ k := by
  have := List.length_filter_le (isStart G comp size) (List.range k)
  rw [List.length_range] at this
  exact this
end
end Go.Proofs.Qxb6001235a
