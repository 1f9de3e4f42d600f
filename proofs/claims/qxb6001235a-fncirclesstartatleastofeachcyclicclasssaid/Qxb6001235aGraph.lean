/-! Seat b6001235a: graphs, reachability, and Tarjan's algorithm as a plain function. No Go in sight. -/
namespace Go.Proofs.Qxb6001235a
set_option linter.unusedVariables false

/-- A graph: n vertices, the edges of each in their order. -/
structure Gr where
  n : Nat
  adj : Nat → List Nat

def Gr.ok (G : Gr) : Prop := ∀ v, v < G.n → ∀ w, w ∈ G.adj v → w < G.n

/-- u reaches v by k edges. -/
def Gr.steps (G : Gr) : Nat → Nat → Nat → Prop
  | 0, u, v => u = v
  | k + 1, u, v => ∃ x, x ∈ G.adj u ∧ G.steps k x v
def Gr.Reach (G : Gr) (u v : Nat) : Prop := ∃ k, G.steps k u v

section
variable {G : Gr}
theorem Reach.refl (u : Nat) : G.Reach u u := ⟨0, rfl⟩
theorem Reach.head {u x v : Nat} (h : x ∈ G.adj u) (r : G.Reach x v) : G.Reach u v := by
  obtain ⟨k, hk⟩ := r
  exact ⟨k + 1, x, h, hk⟩
theorem Reach.edge {u v : Nat} (h : v ∈ G.adj u) : G.Reach u v := Reach.head h (Reach.refl v)
theorem Reach.trans {u v w : Nat} (h : G.Reach u v) (k : G.Reach v w) : G.Reach u w := by
  obtain ⟨m, hm⟩ := h
  induction m generalizing u with
  | zero => have e : u = v := hm; subst e; exact k
  | succ m ih =>
    obtain ⟨x, hx, hr⟩ := hm
    exact Reach.head hx (ih hr)
/-- What is closed under edges is closed under reaching. -/
theorem Reach.closed {S : Nat → Prop} (hS : ∀ x y, S x → y ∈ G.adj x → S y) {u v : Nat} (h : G.Reach u v) (hu : S u) : S v := by
  obtain ⟨m, hm⟩ := h
  induction m generalizing u with
  | zero => have e : u = v := hm; subst e; exact hu
  | succ m ih =>
    obtain ⟨x, hx, hr⟩ := hm
    exact ih (hS u x hu hx) hr
theorem Reach.lt (hG : G.ok) {u v : Nat} (h : G.Reach u v) (hu : u < G.n) : v < G.n := Reach.closed (S := fun x => x < G.n) (fun x y hx hy => hG x hx y hy) h hu
end

def upd {α : Type} (f : Nat → α) (v : Nat) (x : α) : Nat → α := fun u => if u = v then x else f u
theorem upd_same {α : Type} (f : Nat → α) (v : Nat) (x : α) : upd f v x v = x := by simp [upd]
theorem upd_other {α : Type} (f : Nat → α) {v u : Nat} (x : α) (h : u ≠ v) : upd f v x u = f u := by simp [upd, h]

/-- The state of Tarjan's algorithm; the stack's top comes first. -/
structure TS where
  order : Nat → Int
  low : Nat → Int
  comp : Nat → Int
  ons : Nat → Bool
  stk : List Nat
  next : Nat
  size : List Nat

def TS.init : TS := ⟨fun _ => -1, fun _ => 0, fun _ => 0, fun _ => false, [], 0, []⟩

def enter (v : Nat) (s : TS) : TS := { s with order := upd s.order v s.next, low := upd s.low v s.next, next := s.next + 1, stk := v :: s.stk, ons := upd s.ons v true }

/-- The stack's part from its top down to v, and what lies below. -/
def segOf (v : Nat) : List Nat → List Nat
  | [] => []
  | x :: r => if x = v then [x] else x :: segOf v r
def restOf (v : Nat) : List Nat → List Nat
  | [] => []
  | x :: r => if x = v then r else restOf v r

def popAll (v : Nat) (s : TS) : TS :=
  { s with stk := restOf v s.stk, ons := fun u => if u ∈ segOf v s.stk then false else s.ons u, comp := fun u => if u ∈ segOf v s.stk then (s.size.length : Int) else s.comp u, size := s.size ++ [(segOf v s.stk).length] }
def finish (v : Nat) (s : TS) : TS := if s.low v = s.order v then popAll v s else s

def stepW (vis : Nat → TS → TS) (v : Nat) (s : TS) (w : Nat) : TS :=
  if s.order w = -1 then { vis w s with low := upd (vis w s).low v (min ((vis w s).low v) ((vis w s).low w)) }
  else if s.ons w = true then { s with low := upd s.low v (min (s.low v) (s.order w)) }
  else s

def visit (G : Gr) : Nat → Nat → TS → TS
  | 0, _, s => s
  | fuel + 1, v, s => finish v ((G.adj v).foldl (stepW (visit G fuel) v) (enter v s))

/-- How many vertices have not been visited. -/
def white (s : TS) : Nat → Nat
  | 0 => 0
  | k + 1 => white s k + if s.order k = -1 then 1 else 0

def Done (s : TS) (v : Nat) : Prop := s.order v ≠ -1 ∧ v ∉ s.stk

structure Inv (G : Gr) (s : TS) (gr : List Nat) : Prop where
  ord : ∀ v, s.order v ≠ -1 → 0 ≤ s.order v ∧ s.order v < s.next
  vis : ∀ v, s.order v ≠ -1 → v < G.n
  inj : ∀ u v, s.order u ≠ -1 → s.order u = s.order v → u = v
  sorted : s.stk.Pairwise (fun a b => s.order b < s.order a)
  stkv : ∀ v, v ∈ s.stk → s.order v ≠ -1
  ons : ∀ v, s.ons v = true ↔ v ∈ s.stk
  dcomp : ∀ v, Done s v → 0 ≤ s.comp v ∧ s.comp v < s.size.length
  dedge : ∀ u, Done s u → ∀ w, w ∈ G.adj u → Done s w ∧ s.comp w ≤ s.comp u
  dscc : ∀ u v, Done s u → Done s v → s.comp u = s.comp v → G.Reach u v
  dsize : ∀ c, c < s.size.length → ∃ C : List Nat, C.Nodup ∧ s.size[c]? = some C.length ∧ ∀ v, v ∈ C ↔ (Done s v ∧ s.comp v = (c : Int))
  gstk : ∀ g, g ∈ gr → g ∈ s.stk
  greach : ∀ g, g ∈ gr → ∀ x, x ∈ s.stk → s.order g ≤ s.order x → G.Reach g x
  black : ∀ x, x ∈ s.stk → x ∉ gr → (∀ y, y ∈ G.adj x → s.order y ≠ -1) ∧ ∃ y, y ∈ s.stk ∧ s.order y < s.order x ∧ G.Reach x y
  cnt : s.next + white s G.n = G.n
  cap : s.size.length + s.stk.length ≤ s.next

/-- The loop over v's edges: 'pre' are done. -/
structure LI (G : Gr) (s0 : TS) (gr : List Nat) (v : Nat) (pre : List Nat) (s : TS) : Prop where
  old : Inv G s0 gr
  inv : Inv G s (v :: gr)
  vlt : v < G.n
  stk : ∃ sg, s.stk = sg ++ v :: s0.stk
  ordv : s.order v = (s0.next : Int)
  keepo : ∀ u, s0.order u ≠ -1 → s.order u = s0.order u
  keepl : ∀ u, s0.order u ≠ -1 → s.low u = s0.low u
  lowv : s.low v ≤ s.order v
  att : ∃ y, y ∈ s.stk ∧ s.order y = s.low v ∧ G.Reach v y
  above : ∀ x, x ∈ s.stk → s.order v < s.order x → ∀ y, y ∈ G.adj x → y ∈ s.stk → s.low v ≤ s.order y
  done : ∀ y, y ∈ pre → s.order y ≠ -1 ∧ (y ∈ s.stk → s.low v ≤ s.order y)
  next : s0.next < s.next

/-- What a visit comes to. -/
structure VP (G : Gr) (s0 : TS) (gr : List Nat) (v : Nat) (s : TS) : Prop where
  inv : Inv G s gr
  stk : ∃ sg, s.stk = sg ++ s0.stk ∧ (∀ x, x ∈ sg → s0.order x = -1) ∧ ((sg = [] ∧ s.low v = s.order v) ∨ (v ∈ sg ∧ s.low v < s.order v ∧ (∃ y, y ∈ s0.stk ∧ s.order y = s.low v ∧ G.Reach v y) ∧ ∀ x, x ∈ sg → ∀ y, y ∈ G.adj x → y ∈ s.stk → s.low v ≤ s.order y))
  ordv : s.order v = (s0.next : Int)
  keepo : ∀ u, s0.order u ≠ -1 → s.order u = s0.order u
  keepl : ∀ u, s0.order u ≠ -1 → s.low u = s0.low u
  next : s0.next < s.next

theorem white_congr {s t : TS} {n : Nat} (h : ∀ v, v < n → (s.order v = -1 ↔ t.order v = -1)) : white s n = white t n := by
  induction n with
  | zero => rfl
  | succ k ih =>
    unfold white
    rw [ih (fun v hv => h v (by omega))]
    have := h k (by omega)
    by_cases e : s.order k = -1
    · rw [if_pos e, if_pos (this.1 e)]
    · rw [if_neg e, if_neg (fun e' => e (this.2 e'))]

theorem white_enter {s : TS} {v n : Nat} (hv : v < n) (hw : s.order v = -1) : white (enter v s) n + 1 = white s n := by
  induction n with
  | zero => omega
  | succ k ih =>
    unfold white
    by_cases e : v = k
    · subst e
      have h1 : white (enter v s) v = white s v := white_congr (fun u hu => by simp [enter, upd, show u ≠ v by omega])
      rw [h1, if_pos hw, if_neg]
      simp [enter, upd]
    · have := ih (by omega)
      have h2 : (enter v s).order k = s.order k := by simp [enter, upd, show k ≠ v by omega]
      rw [h2]
      omega

section
variable {G : Gr}

theorem enter_LI {s : TS} {gr : List Nat} {v : Nat} (h : Inv G s gr) (hv : v < G.n) (hw : s.order v = -1) (hr : ∀ g, g ∈ gr → G.Reach g v) : LI G s gr v [] (enter v s) := by
  have nst : v ∉ s.stk := fun hm => h.stkv v hm hw
  have oo : ∀ u, u ≠ v → (enter v s).order u = s.order u := fun u hu => upd_other _ _ hu
  have ov : (enter v s).order v = (s.next : Int) := upd_same _ _ _
  have ne : ∀ u, s.order u ≠ -1 → u ≠ v := fun u hu e => by subst e; exact hu hw
  have stk : (enter v s).stk = v :: s.stk := rfl
  have dn : ∀ u, Done (enter v s) u → u ≠ v ∧ Done s u := by
    rintro u ⟨h1, h2⟩
    have hu : u ≠ v := fun e => by subst e; exact h2 (by rw [stk]; exact List.mem_cons_self)
    rw [oo u hu] at h1
    exact ⟨hu, h1, fun hm => h2 (by rw [stk]; exact List.mem_cons_of_mem _ hm)⟩
  have nd : ∀ u, Done s u → Done (enter v s) u := by
    rintro u ⟨h1, h2⟩
    have hu := ne u h1
    refine ⟨by rw [oo u hu]; exact h1, ?_⟩
    rw [stk]
    intro hm
    rcases List.mem_cons.1 hm with e | hm
    · exact hu e
    · exact h2 hm
  refine ⟨h, ?_, hv, ⟨[], rfl⟩, ov, fun u hu => oo u (ne u hu), fun u hu => upd_other _ _ (ne u hu), ?_, ?_, ?_, ?_, Nat.lt_succ_self _⟩
  · refine ⟨?_, ?_, ?_, ?_, ?_, ?_, ?_, ?_, ?_, ?_, ?_, ?_, ?_, ?_, ?_⟩
    · intro u hu
      by_cases e : u = v
      · subst e; rw [ov]; show 0 ≤ (s.next : Int) ∧ (s.next : Int) < ((s.next + 1 : Nat) : Int); omega
      · rw [oo u e] at hu ⊢
        have := h.ord u hu
        show 0 ≤ s.order u ∧ s.order u < ((s.next + 1 : Nat) : Int)
        omega
    · intro u hu
      by_cases e : u = v
      · subst e; exact hv
      · rw [oo u e] at hu; exact h.vis u hu
    · intro a b ha hab
      by_cases e : a = v
      · by_cases e2 : b = v
        · rw [e, e2]
        · subst e
          rw [ov, oo b e2] at hab
          have hb : s.order b ≠ -1 := by rw [← hab]; omega
          have := h.ord b hb
          omega
      · rw [oo a e] at ha hab
        by_cases e2 : b = v
        · subst e2
          rw [ov] at hab
          have := h.ord a ha
          omega
        · rw [oo b e2] at hab
          exact h.inj a b ha hab
    · rw [stk, List.pairwise_cons]
      refine ⟨fun b hb => ?_, ?_⟩
      · have h1 := h.stkv b hb
        rw [ov, oo b (ne b h1)]
        exact (h.ord b h1).2
      · refine h.sorted.imp_of_mem ?_
        intro a b ha hb hab
        rw [oo a (ne a (h.stkv a ha)), oo b (ne b (h.stkv b hb))]
        exact hab
    · intro u hu
      rw [stk] at hu
      rcases List.mem_cons.1 hu with e | hm
      · subst e; rw [ov]; omega
      · have := h.stkv u hm
        rw [oo u (ne u this)]; exact this
    · intro u
      rw [stk]
      show upd s.ons v true u = true ↔ _
      by_cases e : u = v
      · subst e; simp [upd]
      · rw [upd_other _ _ e, h.ons u]
        simp [e]
    · intro u hu
      obtain ⟨hne, hd⟩ := dn u hu
      exact h.dcomp u hd
    · intro u hu w hw'
      obtain ⟨hne, hd⟩ := dn u hu
      obtain ⟨h1, h2⟩ := h.dedge u hd w hw'
      exact ⟨nd w h1, h2⟩
    · intro a b ha hb hab
      exact h.dscc a b (dn a ha).2 (dn b hb).2 hab
    · intro c hc
      obtain ⟨C, h1, h2, h3⟩ := h.dsize c hc
      exact ⟨C, h1, h2, fun u => ⟨fun hu => ⟨nd u ((h3 u).1 hu).1, ((h3 u).1 hu).2⟩, fun hu => (h3 u).2 ⟨(dn u hu.1).2, hu.2⟩⟩⟩
    · intro g hg
      rw [stk]
      rcases List.mem_cons.1 hg with e | hg
      · subst e; exact List.mem_cons_self
      · exact List.mem_cons_of_mem _ (h.gstk g hg)
    · intro g hg x hx hgx
      rw [stk] at hx
      rcases List.mem_cons.1 hg with e | hg2
      · subst e
        rcases List.mem_cons.1 hx with e | hx
        · subst e; exact Reach.refl _
        · have h1 := h.stkv x hx
          rw [ov, oo x (ne x h1)] at hgx
          have := h.ord x h1
          omega
      · have hgs := h.gstk g hg2
        have hgv := ne g (h.stkv g hgs)
        rcases List.mem_cons.1 hx with e | hx
        · subst e; exact hr g hg2
        · rw [oo g hgv, oo x (ne x (h.stkv x hx))] at hgx
          exact h.greach g hg2 x hx hgx
    · intro x hx hxg
      rw [stk] at hx
      have hxv : x ≠ v := fun e => hxg (by rw [e]; exact List.mem_cons_self)
      have hxs : x ∈ s.stk := by
        rcases List.mem_cons.1 hx with e | hx
        · exact absurd e hxv
        · exact hx
      obtain ⟨h1, y, h2, h3, h4⟩ := h.black x hxs (fun hm => hxg (List.mem_cons_of_mem _ hm))
      refine ⟨fun z hz => ?_, y, by rw [stk]; exact List.mem_cons_of_mem _ h2, ?_, h4⟩
      · by_cases e : z = v
        · subst e; rw [ov]; omega
        · rw [oo z e]; exact h1 z hz
      · rw [oo y (ne y (h.stkv y h2)), oo x hxv]; exact h3
    · have h1 := white_enter hv hw
      have h2 := h.cnt
      show s.next + 1 + white (enter v s) G.n = G.n
      omega
    · have := h.cap
      show s.size.length + (v :: s.stk).length ≤ s.next + 1
      simp only [List.length_cons]
      omega
  · show upd s.low v (s.next : Int) v ≤ upd s.order v (s.next : Int) v
    rw [upd_same, upd_same]
    exact Int.le_refl _
  · refine ⟨v, by rw [stk]; exact List.mem_cons_self, ?_, Reach.refl v⟩
    show upd s.order v (s.next : Int) v = upd s.low v (s.next : Int) v
    rw [upd_same, upd_same]
  · intro x hx hxv
    rw [stk] at hx
    rcases List.mem_cons.1 hx with e | hx
    · subst e; omega
    · have h1 := h.stkv x hx
      rw [ov, oo x (ne x h1)] at hxv
      have := h.ord x h1
      omega
  · intro y hy
    cases hy
end

section
variable {G : Gr}

/-- Inv looks at no low. -/
theorem Inv.low {s : TS} {gr : List Nat} (h : Inv G s gr) (l : Nat → Int) : Inv G { s with low := l } gr :=
  ⟨h.ord, h.vis, h.inj, h.sorted, h.stkv, h.ons, h.dcomp, h.dedge, h.dscc, h.dsize, h.gstk, h.greach, h.black, by
    have := h.cnt
    have e : white { s with low := l } G.n = white s G.n := white_congr (fun v _ => Iff.rfl)
    rw [e]; exact this, h.cap⟩

theorem Inv.nodup {s : TS} {gr : List Nat} (h : Inv G s gr) : s.stk.Nodup := h.sorted.imp (fun hab e => by subst e; omega)

/-- v itself is on the stack. -/
theorem LI.mem {s0 s : TS} {gr pre : List Nat} {v : Nat} (h : LI G s0 gr v pre s) : v ∈ s.stk := by
  obtain ⟨sg, e⟩ := h.stk
  rw [e]; simp

/-- What lies below v is the old stack. -/
theorem LI.below {s0 s : TS} {gr pre : List Nat} {v : Nat} (h : LI G s0 gr v pre s) {y : Nat} (hy : y ∈ s.stk) : y ∈ s0.stk ↔ s.order y < s.order v := by
  obtain ⟨sg, e⟩ := h.stk
  have hs := h.inv.sorted
  rw [e] at hs hy
  have h1 := List.pairwise_append.1 hs
  have h2 := List.pairwise_cons.1 h1.2.1
  constructor
  · intro hm; exact h2.1 y hm
  · intro hlt
    rcases List.mem_append.1 hy with hm | hm
    · have := h1.2.2 y hm v List.mem_cons_self
      omega
    · rcases List.mem_cons.1 hm with e | hm
      · subst e; omega
      · exact hm
theorem LI.aboveMem {s0 s : TS} {gr pre : List Nat} {v : Nat} (h : LI G s0 gr v pre s) {y : Nat} (hy : y ∈ s0.stk) : y ∈ s.stk := by
  obtain ⟨sg, e⟩ := h.stk
  rw [e]; simp [hy]

theorem step_onstack {s0 s : TS} {gr pre : List Nat} {v w : Nat} (h : LI G s0 gr v pre s) (hw : w ∈ G.adj v) (hv : s.order w ≠ -1) (ho : w ∈ s.stk) :
    LI G s0 gr v (pre ++ [w]) { s with low := upd s.low v (min (s.low v) (s.order w)) } := by
  have lv : ({ s with low := upd s.low v (min (s.low v) (s.order w)) } : TS).low v = min (s.low v) (s.order w) := upd_same _ _ _
  have nv : ∀ u, s0.order u ≠ -1 → u ≠ v := fun u hu e => by
    subst e
    have h1 := h.keepo u hu
    have h2 := h.old.ord u hu
    have h3 := h.ordv
    omega
  refine ⟨h.old, h.inv.low _, h.vlt, h.stk, h.ordv, h.keepo, fun u hu => ?_, ?_, ?_, ?_, ?_, h.next⟩
  · show upd s.low v _ u = _
    rw [upd_other _ _ (nv u hu)]; exact h.keepl u hu
  · rw [lv]; have := h.lowv; show min _ _ ≤ s.order v; omega
  · rw [lv]
    by_cases hm : s.low v ≤ s.order w
    · rw [Int.min_eq_left hm]; exact h.att
    · rw [Int.min_eq_right (by omega)]
      exact ⟨w, ho, rfl, Reach.edge hw⟩
  · intro x hx hvx y hy hys
    rw [lv]
    have := h.above x hx hvx y hy hys
    show min _ _ ≤ s.order y; omega
  · intro y hy
    rw [lv]
    rcases List.mem_append.1 hy with hy | hy
    · obtain ⟨h1, h2⟩ := h.done y hy
      exact ⟨h1, fun hm => by have := h2 hm; show min _ _ ≤ s.order y; omega⟩
    · simp at hy
      subst hy
      exact ⟨hv, fun _ => by show min _ _ ≤ s.order y; omega⟩

theorem step_done {s0 s : TS} {gr pre : List Nat} {v w : Nat} (h : LI G s0 gr v pre s) (hv : s.order w ≠ -1) (ho : w ∉ s.stk) : LI G s0 gr v (pre ++ [w]) s := by
  refine ⟨h.old, h.inv, h.vlt, h.stk, h.ordv, h.keepo, h.keepl, h.lowv, h.att, h.above, ?_, h.next⟩
  intro y hy
  rcases List.mem_append.1 hy with hy | hy
  · exact h.done y hy
  · simp at hy
    subst hy
    exact ⟨hv, fun hm => absurd hm ho⟩

theorem step_white {s0 s s' : TS} {gr pre : List Nat} {v w : Nat} (h : LI G s0 gr v pre s) (hw : w ∈ G.adj v) (hp : VP G s (v :: gr) w s') :
    LI G s0 gr v (pre ++ [w]) { s' with low := upd s'.low v (min (s'.low v) (s'.low w)) } := by
  obtain ⟨sg, hsg, hnew, hcase⟩ := hp.stk
  have vm := h.mem
  have vo : s.order v ≠ -1 := h.inv.stkv v vm
  have ov : s'.order v = s.order v := hp.keepo v vo
  have lv0 : s'.low v = s.low v := hp.keepl v vo
  have lv : ({ s' with low := upd s'.low v (min (s'.low v) (s'.low w)) } : TS).low v = min (s.low v) (s'.low w) := by
    show upd s'.low v _ v = _
    rw [upd_same, lv0]
  have nv : ∀ u, s0.order u ≠ -1 → u ≠ v := fun u hu e => by
    subst e
    have h1 := h.keepo u hu
    have h2 := h.old.ord u hu
    have h3 := h.ordv
    omega
  have vis0 : ∀ u, s0.order u ≠ -1 → s.order u ≠ -1 := fun u hu => by rw [h.keepo u hu]; exact hu
  have oldm : ∀ y, y ∈ s'.stk → s.order y ≠ -1 → y ∈ s.stk := by
    intro y hy ho
    rw [hsg] at hy
    rcases List.mem_append.1 hy with hm | hm
    · exact absurd (hnew y hm) ho
    · exact hm
  have vsg : v ∉ sg := fun hm => vo (hnew v hm)
  have hb : ∀ x, x ∈ s'.stk → s'.order v < s'.order x → x ∈ sg ∨ (x ∈ s.stk ∧ s.order v < s.order x) := by
    intro x hx hvx
    rw [hsg] at hx
    rcases List.mem_append.1 hx with hm | hm
    · exact .inl hm
    · right
      refine ⟨hm, ?_⟩
      rw [ov, hp.keepo x (h.inv.stkv x hm)] at hvx
      exact hvx
  have hlw : min (s.low v) (s'.low w) ≤ s.low v := by omega
  refine ⟨h.old, hp.inv.low _, h.vlt, ?_, ?_, ?_, ?_, ?_, ?_, ?_, ?_, ?_⟩
  · obtain ⟨sg0, e0⟩ := h.stk
    exact ⟨sg ++ sg0, by show s'.stk = _; rw [hsg, e0, List.append_assoc]⟩
  · show s'.order v = _
    rw [ov]; exact h.ordv
  · intro u hu
    show s'.order u = _
    rw [hp.keepo u (vis0 u hu)]; exact h.keepo u hu
  · intro u hu
    show upd s'.low v _ u = _
    rw [upd_other _ _ (nv u hu), hp.keepl u (vis0 u hu)]; exact h.keepl u hu
  · rw [lv]
    show _ ≤ s'.order v
    rw [ov]
    have := h.lowv
    omega
  · rw [lv]
    by_cases hm : s.low v ≤ s'.low w
    · rw [Int.min_eq_left hm]
      obtain ⟨y, y1, y2, y3⟩ := h.att
      refine ⟨y, ?_, ?_, y3⟩
      · show y ∈ s'.stk
        rw [hsg]; exact List.mem_append_right _ y1
      · show s'.order y = _
        rw [hp.keepo y (h.inv.stkv y y1)]; exact y2
    · have hmin : min (s.low v) (s'.low w) = s'.low w := Int.min_eq_right (by omega)
      rw [hmin]
      rcases hcase with ⟨_, e⟩ | ⟨_, _, ⟨y, y1, y2, y3⟩, _⟩
      · have h1 := hp.ordv
        have h2 := h.inv.ord v vo
        have h3 := h.lowv
        omega
      · refine ⟨y, ?_, ?_, Reach.head hw y3⟩
        · show y ∈ s'.stk
          rw [hsg]; exact List.mem_append_right _ y1
        · exact y2
  · intro x hx hvx y hy hys
    rw [lv]
    show _ ≤ s'.order y
    rcases hb x hx hvx with hm | ⟨hm, hlt⟩
    · rcases hcase with ⟨e, _⟩ | ⟨_, _, _, hall⟩
      · rw [e] at hm; cases hm
      · have := hall x hm y hy hys
        omega
    · have hg : x ∉ v :: gr := by
        intro hc
        rcases List.mem_cons.1 hc with e | hc
        · subst e; omega
        · have h1 := h.old.gstk x hc
          have h2 := (h.below hm).1 h1
          omega
      have hyv := (h.inv.black x hm hg).1 y hy
      have hyo := oldm y hys hyv
      have := h.above x hm hlt y hy hyo
      rw [hp.keepo y hyv]
      omega
  · intro y hy
    rw [lv]
    rcases List.mem_append.1 hy with hy | hy
    · obtain ⟨h1, h2⟩ := h.done y hy
      refine ⟨by show s'.order y ≠ -1; rw [hp.keepo y h1]; exact h1, fun hm => ?_⟩
      have := h2 (oldm y hm h1)
      show _ ≤ s'.order y
      rw [hp.keepo y h1]
      omega
    · simp at hy
      subst hy
      refine ⟨by show s'.order y ≠ -1; rw [hp.ordv]; omega, fun hm => ?_⟩
      show _ ≤ s'.order y
      rcases hcase with ⟨_, e⟩ | ⟨_, e, _⟩ <;> omega
  · have := h.next
    have := hp.next
    show s0.next < s'.next
    omega

/-- The stack's part down to v. -/
theorem segOf_eq {v : Nat} {sg r : List Nat} (h : v ∉ sg) : segOf v (sg ++ v :: r) = sg ++ [v] ∧ restOf v (sg ++ v :: r) = r := by
  induction sg with
  | nil => simp [segOf, restOf]
  | cons a sg ih =>
    have ha : a ≠ v := fun e => h (by rw [e]; exact List.mem_cons_self)
    obtain ⟨h1, h2⟩ := ih (fun hm => h (List.mem_cons_of_mem _ hm))
    simp [segOf, restOf, ha, h1, h2]

theorem finish_keep {s0 s : TS} {gr : List Nat} {v : Nat} (h : LI G s0 gr v (G.adj v) s) (hl : s.low v ≠ s.order v) : VP G s0 gr v s := by
  have hlt : s.low v < s.order v := by have := h.lowv; omega
  obtain ⟨sg, hsg⟩ := h.stk
  have hs := h.inv.sorted
  rw [hsg] at hs
  have h1 := List.pairwise_append.1 hs
  refine ⟨⟨h.inv.ord, h.inv.vis, h.inv.inj, h.inv.sorted, h.inv.stkv, h.inv.ons, h.inv.dcomp, h.inv.dedge, h.inv.dscc, h.inv.dsize, fun g hg => h.inv.gstk g (List.mem_cons_of_mem _ hg), fun g hg => h.inv.greach g (List.mem_cons_of_mem _ hg), ?_, h.inv.cnt, h.inv.cap⟩, ⟨sg ++ [v], ?_, ?_, .inr ⟨by simp, hlt, ?_, ?_⟩⟩, h.ordv, h.keepo, h.keepl, h.next⟩
  · intro x hx hg
    by_cases e : x = v
    · subst e
      refine ⟨fun y hy => (h.done y hy).1, ?_⟩
      obtain ⟨y, y1, y2, y3⟩ := h.att
      exact ⟨y, y1, by omega, y3⟩
    · exact h.inv.black x hx (by simp [e, hg])
  · rw [hsg]; simp
  · intro x hx
    apply Classical.byContradiction
    intro hne
    have e1 := h.keepo x hne
    have e2 := h.old.ord x hne
    have e3 := h.ordv
    rcases List.mem_append.1 hx with hm | hm
    · have := h1.2.2 x hm v List.mem_cons_self
      omega
    · simp at hm
      subst hm
      omega
  · obtain ⟨y, y1, y2, y3⟩ := h.att
    exact ⟨y, (h.below y1).2 (by omega), y2, y3⟩
  · intro x hx y hy hys
    rcases List.mem_append.1 hx with hm | hm
    · exact h.above x (by rw [hsg]; exact List.mem_append_left _ hm) (h1.2.2 x hm v List.mem_cons_self) y hy hys
    · simp at hm
      subst hm
      exact (h.done y hy).2 hys

theorem finish_pop {s0 s : TS} {gr : List Nat} {v : Nat} (h : LI G s0 gr v (G.adj v) s) (hl : s.low v = s.order v) : VP G s0 gr v (popAll v s) := by
  obtain ⟨sg, hsg⟩ := h.stk
  have hs := h.inv.sorted
  have hnd := h.inv.nodup
  rw [hsg] at hs hnd
  have h1 := List.pairwise_append.1 hs
  have hvs : v ∉ sg := by
    intro hm
    have := h1.2.2 v hm v List.mem_cons_self
    omega
  obtain ⟨e1, e2⟩ := segOf_eq (r := s0.stk) hvs
  rw [← hsg] at e1 e2
  have vm := h.mem
  have vo := h.inv.stkv v vm
  -- C: what is popped
  have memC : ∀ x, x ∈ segOf v s.stk ↔ x ∈ s.stk ∧ s.order v ≤ s.order x := by
    intro x
    rw [e1]
    constructor
    · intro hm
      rcases List.mem_append.1 hm with hm | hm
      · exact ⟨by rw [hsg]; exact List.mem_append_left _ hm, by have := h1.2.2 x hm v List.mem_cons_self; omega⟩
      · simp at hm; subst hm; exact ⟨vm, Int.le_refl _⟩
    · rintro ⟨hm, hle⟩
      have hn : x ∉ s0.stk := fun h0 => by have := (h.below hm).1 h0; omega
      rw [hsg] at hm
      rcases List.mem_append.1 hm with hm | hm
      · exact List.mem_append_left _ hm
      · rcases List.mem_cons.1 hm with e | hm
        · subst e; simp
        · exact absurd hm hn
  have closed : ∀ x y, (x ∈ segOf v s.stk ∨ Done s x) → y ∈ G.adj x → (y ∈ segOf v s.stk ∨ Done s y) := by
    intro x y hx hy
    rcases hx with hx | hx
    · obtain ⟨hm, hle⟩ := (memC x).1 hx
      have key : s.order y ≠ -1 ∧ (y ∈ s.stk → s.low v ≤ s.order y) := by
        by_cases e : x = v
        · subst e; exact h.done y hy
        · have hlt : s.order v < s.order x := by
            have : s.order v ≠ s.order x := fun e' => e (h.inv.inj v x vo e').symm
            omega
          have hg : x ∉ v :: gr := by
            intro hc
            rcases List.mem_cons.1 hc with e' | hc
            · exact e e'
            · have := (h.below hm).1 (h.old.gstk x hc)
              omega
          exact ⟨(h.inv.black x hm hg).1 y hy, h.above x hm hlt y hy⟩
      by_cases hy2 : y ∈ s.stk
      · exact .inl ((memC y).2 ⟨hy2, by have := key.2 hy2; omega⟩)
      · exact .inr ⟨key.1, hy2⟩
    · exact .inr (h.inv.dedge x hx y hy).1
  have down : ∀ x, x ∈ segOf v s.stk → G.Reach v x := fun x hx => h.inv.greach v List.mem_cons_self x ((memC x).1 hx).1 ((memC x).1 hx).2
  have up : ∀ (k : Nat) x, x ∈ segOf v s.stk → s.order x ≤ (k : Int) → G.Reach x v := by
    intro k
    induction k with
    | zero =>
      intro x hx hk
      obtain ⟨hm, hle⟩ := (memC x).1 hx
      have h0 := h.inv.ord v vo
      have : s.order v = s.order x := by omega
      rw [h.inv.inj v x vo this]; exact Reach.refl _
    | succ k ih =>
      intro x hx hk
      obtain ⟨hm, hle⟩ := (memC x).1 hx
      by_cases e : x = v
      · subst e; exact Reach.refl _
      · have hg : x ∉ v :: gr := by
          intro hc
          rcases List.mem_cons.1 hc with e' | hc
          · exact e e'
          · have := (h.below hm).1 (h.old.gstk x hc)
            omega
        obtain ⟨_, y, y1, y2, y3⟩ := h.inv.black x hm hg
        have hyC : y ∈ segOf v s.stk := by
          rcases Reach.closed (S := fun z => z ∈ segOf v s.stk ∨ Done s z) closed y3 (.inl hx) with hc | hc
          · exact hc
          · exact absurd y1 hc.2
        exact Reach.trans y3 (ih y hyC (by omega))
  have upv : ∀ x, x ∈ segOf v s.stk → G.Reach x v := fun x hx => by
    have h0 := h.inv.ord x (h.inv.stkv x ((memC x).1 hx).1)
    exact up (s.order x).toNat x hx (by omega)
  have stk' : (popAll v s).stk = s0.stk := e2
  have dn : ∀ u, Done (popAll v s) u ↔ (u ∈ segOf v s.stk ∨ Done s u) := by
    intro u
    constructor
    · rintro ⟨d1, d2⟩
      by_cases hm : u ∈ s.stk
      · left
        refine (memC u).2 ⟨hm, ?_⟩
        have : ¬ s.order u < s.order v := fun hc => d2 (by rw [stk']; exact (h.below hm).2 hc)
        omega
      · exact .inr ⟨d1, hm⟩
    · rintro (hu | hu)
      · obtain ⟨hm, hle⟩ := (memC u).1 hu
        refine ⟨h.inv.stkv u hm, ?_⟩
        rw [stk']
        intro h0
        have := (h.below hm).1 h0
        omega
      · refine ⟨hu.1, ?_⟩
        rw [stk']
        exact fun h0 => hu.2 (h.aboveMem h0)
  have cC : ∀ u, u ∈ segOf v s.stk → (popAll v s).comp u = (s.size.length : Int) := fun u hu => if_pos hu
  have cD : ∀ u, Done s u → (popAll v s).comp u = s.comp u := fun u hu => if_neg (fun hc => hu.2 ((memC u).1 hc).1)
  have sz : (popAll v s).size = s.size ++ [(segOf v s.stk).length] := rfl
  have szl : (popAll v s).size.length = s.size.length + 1 := by rw [sz]; simp
  refine ⟨⟨h.inv.ord, h.inv.vis, h.inv.inj, ?_, ?_, ?_, ?_, ?_, ?_, ?_, ?_, ?_, ?_, ?_, ?_⟩, ⟨[], ?_, by simp, .inl ⟨rfl, hl⟩⟩, h.ordv, h.keepo, h.keepl, h.next⟩
  · rw [stk']
    exact (List.pairwise_cons.1 h1.2.1).2
  · intro u hu
    rw [stk'] at hu
    exact h.inv.stkv u (h.aboveMem hu)
  · intro u
    rw [stk']
    show (if u ∈ segOf v s.stk then false else s.ons u) = true ↔ _
    by_cases hu : u ∈ segOf v s.stk
    · rw [if_pos hu]
      obtain ⟨hm, hle⟩ := (memC u).1 hu
      constructor
      · intro hc; cases hc
      · intro h0
        have := (h.below hm).1 h0
        omega
    · rw [if_neg hu, h.inv.ons u]
      constructor
      · intro hm
        refine (h.below hm).2 ?_
        have : ¬ s.order v ≤ s.order u := fun hc => hu ((memC u).2 ⟨hm, hc⟩)
        omega
      · exact fun h0 => h.aboveMem h0
  · intro u hu
    rw [szl]
    rcases (dn u).1 hu with hc | hc
    · rw [cC u hc]; omega
    · rw [cD u hc]
      have := h.inv.dcomp u hc
      omega
  · intro u hu w hw
    rcases (dn u).1 hu with hc | hc
    · have hw' := closed u w (.inl hc) hw
      refine ⟨(dn w).2 hw', ?_⟩
      rw [cC u hc]
      rcases hw' with hw' | hw'
      · rw [cC w hw']; exact Int.le_refl _
      · rw [cD w hw']
        have := h.inv.dcomp w hw'
        omega
    · obtain ⟨d1, d2⟩ := h.inv.dedge u hc w hw
      refine ⟨(dn w).2 (.inr d1), ?_⟩
      rw [cD u hc, cD w d1]; exact d2
  · intro a b ha hb hab
    rcases (dn a).1 ha with ha | ha <;> rcases (dn b).1 hb with hb | hb
    · exact Reach.trans (upv a ha) (down b hb)
    · rw [cC a ha, cD b hb] at hab
      have := h.inv.dcomp b hb
      omega
    · rw [cD a ha, cC b hb] at hab
      have := h.inv.dcomp a ha
      omega
    · rw [cD a ha, cD b hb] at hab
      exact h.inv.dscc a b ha hb hab
  · intro c hc
    rw [szl] at hc
    by_cases e : c = s.size.length
    · subst e
      refine ⟨segOf v s.stk, ?_, ?_, ?_⟩
      · rw [e1]
        have := List.nodup_append.1 hnd
        rw [List.nodup_append]
        refine ⟨this.1, by simp, fun a ha b hb => ?_⟩
        simp at hb
        subst hb
        exact this.2.2 a ha b List.mem_cons_self
      · rw [sz]; simp
      · intro u
        constructor
        · intro hu; exact ⟨(dn u).2 (.inl hu), cC u hu⟩
        · rintro ⟨hu, hcu⟩
          rcases (dn u).1 hu with hu' | hu'
          · exact hu'
          · rw [cD u hu'] at hcu
            have := h.inv.dcomp u hu'
            omega
    · obtain ⟨C, c1, c2, c3⟩ := h.inv.dsize c (by omega)
      refine ⟨C, c1, ?_, ?_⟩
      · rw [sz, List.getElem?_append_left (by omega)]; exact c2
      · intro u
        constructor
        · intro hu
          obtain ⟨d1, d2⟩ := (c3 u).1 hu
          exact ⟨(dn u).2 (.inr d1), by rw [cD u d1]; exact d2⟩
        · rintro ⟨hu, hcu⟩
          rcases (dn u).1 hu with hu' | hu'
          · rw [cC u hu'] at hcu
            omega
          · rw [cD u hu'] at hcu
            exact (c3 u).2 ⟨hu', hcu⟩
  · intro g hg
    rw [stk']; exact h.old.gstk g hg
  · intro g hg x hx hgx
    rw [stk'] at hx
    exact h.inv.greach g (List.mem_cons_of_mem _ hg) x (h.aboveMem hx) hgx
  · intro x hx hg
    rw [stk'] at hx
    have hm := h.aboveMem hx
    have hlt := (h.below hm).1 hx
    have hxv : x ≠ v := fun e => by subst e; omega
    obtain ⟨b1, y, y1, y2, y3⟩ := h.inv.black x hm (by simp [hxv, hg])
    exact ⟨b1, y, by rw [stk']; exact (h.below y1).2 (by omega), y2, y3⟩
  · have := h.inv.cnt
    have e : white (popAll v s) G.n = white s G.n := white_congr (fun u _ => Iff.rfl)
    rw [e]; exact this
  · have := h.inv.cap
    rw [szl, stk']
    rw [hsg] at this
    simp at this
    show _ ≤ s.next
    omega
  · rw [stk']; rfl

theorem finish_VP {s0 s : TS} {gr : List Nat} {v : Nat} (h : LI G s0 gr v (G.adj v) s) : VP G s0 gr v (finish v s) := by
  unfold finish
  by_cases e : s.low v = s.order v
  · rw [if_pos e]; exact finish_pop h e
  · rw [if_neg e]; exact finish_keep h e

theorem Inv.next_lt {s : TS} {gr : List Nat} (h : Inv G s gr) {v : Nat} (hv : v < G.n) (hw : s.order v = -1) : s.next < G.n := by
  have h1 := h.cnt
  have h2 := white_enter hv hw
  omega

/-- The loop's state after the first edges. -/
theorem loop_LI (hG : G.ok) {fuel : Nat} (ih : ∀ (w : Nat) (s : TS) (gr : List Nat), Inv G s gr → w < G.n → s.order w = -1 → (∀ g, g ∈ gr → G.Reach g w) → G.n ≤ fuel + s.next → VP G s gr w (visit G fuel w s))
    {s0 : TS} {gr : List Nat} {v : Nat} : ∀ (ws pre : List Nat) (s : TS), LI G s0 gr v pre s → (∀ w, w ∈ ws → w ∈ G.adj v) → G.n ≤ fuel + (s0.next + 1) → LI G s0 gr v (pre ++ ws) (ws.foldl (stepW (visit G fuel) v) s) := by
  intro ws
  induction ws with
  | nil => intro pre s h _ _; simpa using h
  | cons w ws ihw =>
    intro pre s h hws hf
    have hw : w ∈ G.adj v := hws w List.mem_cons_self
    have step : LI G s0 gr v (pre ++ [w]) (stepW (visit G fuel) v s w) := by
      unfold stepW
      by_cases e : s.order w = -1
      · rw [if_pos e]
        refine step_white h hw (ih w s (v :: gr) h.inv (hG v h.vlt w hw) e ?_ (by have := h.next; omega))
        intro g hg
        have hgv : G.Reach g v := h.inv.greach g hg v h.mem (by
          rcases List.mem_cons.1 hg with e' | hg'
          · rw [e']; exact Int.le_refl _
          · have := (h.below (h.aboveMem (h.old.gstk g hg'))).1 (h.old.gstk g hg'); omega)
        exact Reach.trans hgv (Reach.edge hw)
      · rw [if_neg e]
        by_cases o : s.ons w = true
        · rw [if_pos o]; exact step_onstack h hw e ((h.inv.ons w).1 o)
        · rw [if_neg o]; exact step_done h e (fun hm => o ((h.inv.ons w).2 hm))
    have := ihw (pre ++ [w]) _ step (fun x hx => hws x (List.mem_cons_of_mem _ hx)) hf
    simpa using this

theorem visit_VP (hG : G.ok) : ∀ (fuel v : Nat) (s : TS) (gr : List Nat), Inv G s gr → v < G.n → s.order v = -1 → (∀ g, g ∈ gr → G.Reach g v) → G.n ≤ fuel + s.next → VP G s gr v (visit G fuel v s) := by
  intro fuel
  induction fuel with
  | zero =>
    intro v s gr h hv hw _ hf
    have := h.next_lt hv hw
    omega
  | succ fuel ih =>
    intro v s gr h hv hw hr hf
    have h0 := enter_LI h hv hw hr
    have h1 := loop_LI hG ih (G.adj v) [] _ h0 (fun w hw => hw) (by omega)
    exact finish_VP (by simpa using h1)

/-- The outer loop. -/
def visitAll (G : Gr) : Nat → TS
  | 0 => TS.init
  | v + 1 => if (visitAll G v).order v = -1 then visit G G.n v (visitAll G v) else visitAll G v

theorem init_inv : Inv G TS.init [] := by
  have hw : ∀ n, white TS.init n = n := by
    intro n
    induction n with
    | zero => rfl
    | succ k ih => unfold white; rw [ih, if_pos (show TS.init.order k = -1 from rfl)]
  have hno : ∀ v, ¬ TS.init.order v ≠ -1 := fun v h => h rfl
  refine ⟨fun v h => absurd h (hno v), fun v h => absurd h (hno v), fun u v h => absurd h (hno u), List.Pairwise.nil, fun v h => (by cases h), fun v => ?_, fun v h => absurd h.1 (hno v), fun v h => absurd h.1 (hno v), fun u v h => absurd h.1 (hno u), fun c h => (by cases h), fun g h => (by cases h), fun g h => (by cases h), fun x h => (by cases h), ?_, Nat.le_refl _⟩
  · show false = true ↔ _
    simp [TS.init]
  · show 0 + white TS.init G.n = G.n
    rw [hw]; omega

theorem visitAll_inv (hG : G.ok) : ∀ k, k ≤ G.n → Inv G (visitAll G k) [] ∧ (visitAll G k).stk = [] ∧ ∀ v, v < k → (visitAll G k).order v ≠ -1 := by
  intro k
  induction k with
  | zero => intro _; exact ⟨init_inv, rfl, fun v h => by omega⟩
  | succ k ih =>
    intro hk
    obtain ⟨h1, h2, h3⟩ := ih (by omega)
    unfold visitAll
    by_cases e : (visitAll G k).order k = -1
    · rw [if_pos e]
      have hp := visit_VP hG G.n k (visitAll G k) [] h1 (by omega) e (fun g hg => by cases hg) (by omega)
      refine ⟨hp.inv, ?_, ?_⟩
      · obtain ⟨sg, e1, _, hc⟩ := hp.stk
        rw [h2] at e1 hc
        rcases hc with ⟨e2, _⟩ | ⟨_, _, ⟨y, hy, _⟩, _⟩
        · rw [e1, e2]; rfl
        · cases hy
      · intro v hv
        by_cases ev : v = k
        · subst ev; rw [hp.ordv]; omega
        · rw [hp.keepo v (h3 v (by omega))]; exact h3 v (by omega)
    · rw [if_neg e]
      refine ⟨h1, h2, fun v hv => ?_⟩
      by_cases ev : v = k
      · subst ev; exact e
      · exact h3 v (by omega)

/-- What Tarjan's algorithm answers. -/
structure SCC (G : Gr) (comp : Nat → Int) (size : List Nat) : Prop where
  range : ∀ v, v < G.n → 0 ≤ comp v ∧ comp v < size.length
  same : ∀ u v, u < G.n → v < G.n → (comp u = comp v ↔ G.Reach u v ∧ G.Reach v u)
  sizes : ∀ c, c < size.length → ∃ C : List Nat, C.Nodup ∧ size[c]? = some C.length ∧ ∀ v, v ∈ C ↔ (v < G.n ∧ comp v = (c : Int))
  few : size.length ≤ G.n
  topo : ∀ u w, u < G.n → w ∈ G.adj u → comp w ≤ comp u

theorem tarjan (hG : G.ok) : SCC G (visitAll G G.n).comp (visitAll G G.n).size := by
  obtain ⟨h1, h2, h3⟩ := visitAll_inv hG G.n (Nat.le_refl _)
  have dn : ∀ v, Done (visitAll G G.n) v ↔ v < G.n := fun v => ⟨fun h => h1.vis v h.1, fun h => ⟨h3 v h, by rw [h2]; simp⟩⟩
  have mono : ∀ u v, u < G.n → G.Reach u v → (visitAll G G.n).comp v ≤ (visitAll G G.n).comp u := by
    intro u v hu hr
    have := Reach.closed (S := fun z => z < G.n ∧ (visitAll G G.n).comp z ≤ (visitAll G G.n).comp u) (fun x y hx hy => by
      have := h1.dedge x ((dn x).2 hx.1) y hy
      exact ⟨(dn y).1 this.1, by omega⟩) hr ⟨hu, Int.le_refl _⟩
    exact this.2
  refine ⟨fun v hv => h1.dcomp v ((dn v).2 hv), fun u v hu hv => ⟨fun e => ⟨h1.dscc u v ((dn u).2 hu) ((dn v).2 hv) e, h1.dscc v u ((dn v).2 hv) ((dn u).2 hu) e.symm⟩, fun ⟨a, b⟩ => ?_⟩, fun c hc => ?_, ?_, fun u w hu hw => mono u w hu (Reach.edge hw)⟩
  · have := mono u v hu a
    have := mono v u hv b
    omega
  · obtain ⟨C, c1, c2, c3⟩ := h1.dsize c hc
    exact ⟨C, c1, c2, fun v => by rw [c3 v, dn v]⟩
  · have := h1.cap
    have := h1.cnt
    omega
end
end Go.Proofs.Qxb6001235a
