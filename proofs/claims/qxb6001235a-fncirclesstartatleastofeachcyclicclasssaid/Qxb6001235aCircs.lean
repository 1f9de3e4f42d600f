import Derived.Test.Qxb6001235aComp
import Derived.Test.Qxb6001235aWalk
import Derived.Test.Qxb6001235aCont
/-! Seat b6001235a: Circles walked. -/
namespace Go.Proofs.Qxb6001235a
set_option linter.unusedVariables false
open Go.RowKit Go.Maps

def compT (G : Gr) : Nat → Int := (visitAll G G.n).comp
def sizeT (G : Gr) : List Nat := (visitAll G G.n).size
def startsT (G : Gr) (k : Nat) : List Nat := starts G (compT G) (sizeT G) k
theorem sccT {G : Gr} (hG : G.ok) : SCC G (compT G) (sizeT G) := tarjan hG

theorem VM.look0 {w : World} {b k : Nat} {f : Nat → Bool} (h : VM w b k f) {c : Nat} (hc : c ≤ 9223372036854775807) :
    (Instr.lookup 35 (.map (some b)) (.int .i64 (c : Int)) false).run Try.prog w = .ok (.bool (f c)) w := h.look hc 0

theorem ownsRow_base {w : World} {b b' : Nat} {e : TypeId} {size : Nat} {v : Value} {n : Nat} {xs : List Value} (h : w.ownsRow b e size v n xs) (hb : b' ≤ b) : w.ownsRow b' e size v n xs := by
  refine ⟨h.1, ?_⟩
  rcases h.2 with h2 | ⟨g, cap, cur, e1, e2, r⟩
  · exact .inl h2
  · exact .inr ⟨g, cap, cur, e1, Nat.le_trans hb e2, r⟩

/-- Rows of two types share no block. -/
theorem own_ne {w : World} {b b' : Nat} {e e' : TypeId} {size size' : Nat} {v v' : Value} {n n' : Nat} {xs xs' : List Value} (h : w.ownsRow b e size v n xs) (h' : w.ownsRow b' e' size' v' n' xs') (hne : e ≠ e') : v.ownBlock = none ∨ v.ownBlock ≠ v'.ownBlock := by
  rcases h.2 with ⟨e1, _⟩ | ⟨g, cap, cur, e1, _, hg, _⟩
  · left; rw [e1]; rfl
  · right
    rcases h'.2 with ⟨e2, _⟩ | ⟨g', cap', cur', e2, _, hg', _⟩
    · rw [e1, e2]; simp [Value.ownBlock]
    · rw [e1, e2]
      simp only [Value.ownBlock, ne_eq, Option.some.injEq]
      intro e3
      subst e3
      rw [hg] at hg'
      simp at hg'
      exact hne hg'.2
theorem own_ne_map {w : World} {b k mb : Nat} {f : Nat → Bool} {e : TypeId} {size : Nat} {v : Value} {n : Nat} {xs : List Value} (h : w.ownsRow b e size v n xs) (hm : VM w mb k f) : v.ownBlock ≠ some mb := by
  intro e0
  obtain ⟨D, ⟨es, clock, hb, _⟩, _⟩ := hm
  rcases h.2 with ⟨e1, _⟩ | ⟨g, cap, cur, e1, _, hg, _⟩
  · rw [e1] at e0; cases e0
  · rw [e1] at e0
    simp only [Value.ownBlock, Option.some.injEq] at e0
    subst e0
    rw [hb] at hg
    simp at hg

/-- Which components have been met among the vertices below k. -/
def doneB (comp : Nat → Int) (k : Nat) (c : Nat) : Bool := (List.range k).any (fun u => decide (comp u = (c : Int)))
theorem doneB_succ (comp : Nat → Int) (k c' : Nat) : doneB comp (k + 1) c' = (doneB comp k c' || decide (comp k = (c' : Int))) := by
  unfold doneB
  rw [List.range_succ, List.any_append]
  simp
theorem first_done {comp : Nat → Int} {k c : Nat} (hc : comp k = (c : Int)) : first comp k = !(doneB comp k c) := by
  rw [Bool.eq_iff_iff, first_iff]
  simp only [doneB, Bool.not_eq_true', List.any_eq_false, List.mem_range, decide_eq_true_eq, hc]

/-- The circles found so far. -/
structure FM (G : Gr) (W1 w : World) (mb kk k : Nat) (FV : Value) (rows : List Value) : Prop where
  ext : Ext W1 w
  mge : W1.heap.size ≤ mb
  map : VM w mb kk (doneB (compT G) k)
  kk : kk ≤ k
  own : w.ownsRow W1.heap.size 25 1 FV (startsT G k).length rows
  row : ∀ (j v : Nat), (startsT G k)[j]? = some v → ∃ rv, rows[j]? = some rv ∧ w.ownsRow W1.heap.size 3 1 rv (circ G (compT G) v).length (ints (circ G (compT G) v))

section
variable {G : Gr} {W1 w w' : World} {mb kk k : Nat} {FV : Value} {rows : List Value}

theorem FM.later (h : FM G W1 w mb kk k FV rows) (hx : Ext w w') : FM G W1 w' mb kk k FV rows := by
  have hg : w.grownBy w' none := ⟨hx.os, hx.tape, hx.output, hx.size, fun k hk _ => hx.block k hk⟩
  refine ⟨h.ext.trans hx, h.mge, h.map.ext hx, h.kk, h.own.kept hg (by cases FV.ownBlock <;> simp), fun j v hj => ?_⟩
  obtain ⟨rv, h1, h2⟩ := h.row j v hj
  exact ⟨rv, h1, h2.kept hg (by cases rv.ownBlock <;> simp)⟩

theorem starts_same {c : Nat} (hc : compT G k = (c : Int)) (hd : doneB (compT G) k c = true) : startsT G (k + 1) = startsT G k := by
  unfold startsT
  rw [starts_succ, if_neg (by unfold isStart; rw [first_done hc, hd]; simp)]
  simp

/-- The component was met before. -/
theorem FM.skip {c : Nat} (h : FM G W1 w mb kk k FV rows) (hc : compT G k = (c : Int)) (hd : doneB (compT G) k c = true) : FM G W1 w mb kk (k + 1) FV rows := by
  have e : doneB (compT G) (k + 1) = doneB (compT G) k := by
    funext c'
    rw [doneB_succ, hc]
    by_cases e : c = c'
    · subst e; simp [hd]
    · simp; omega
  refine ⟨h.ext, h.mge, by rw [e]; exact h.map, by have := h.kk; omega, by rw [starts_same hc hd]; exact h.own, by rw [starts_same hc hd]; exact h.row⟩

/-- Behind 'done[cv] = true'. -/
structure FM2 (G : Gr) (W1 w : World) (mb kk k : Nat) (FV : Value) (rows : List Value) : Prop where
  ext : Ext W1 w
  mge : W1.heap.size ≤ mb
  map : VM w mb kk (doneB (compT G) (k + 1))
  kk : kk ≤ k + 1
  own : w.ownsRow W1.heap.size 25 1 FV (startsT G k).length rows
  row : ∀ (j v : Nat), (startsT G k)[j]? = some v → ∃ rv, rows[j]? = some rv ∧ w.ownsRow W1.heap.size 3 1 rv (circ G (compT G) v).length (ints (circ G (compT G) v))

theorem FM.mark {c : Nat} (h : FM G W1 w mb kk k FV rows) (hc : compT G k = (c : Int)) (hv : VM w' mb (kk + 1) (upd (doneB (compT G) k) c true)) (hg : w.grownBy w' (some mb)) : FM2 G W1 w' mb (kk + 1) k FV rows := by
  have e : doneB (compT G) (k + 1) = upd (doneB (compT G) k) c true := by
    funext c'
    rw [doneB_succ, hc]
    by_cases e : c' = c
    · subst e; rw [upd_same]; simp
    · rw [upd_other _ _ e]; simp; omega
  refine ⟨Below.grown h.ext hg h.ext.size (fun g e => by cases e; exact h.mge), h.mge, by rw [e]; exact hv, by have := h.kk; omega, h.own.kept hg (.inr (own_ne_map h.own h.map)), fun j v hj => ?_⟩
  obtain ⟨rv, h1, h2⟩ := h.row j v hj
  exact ⟨rv, h1, h2.kept hg (.inr (own_ne_map h2 h.map))⟩

theorem FM2.later (h : FM2 G W1 w mb kk k FV rows) (hx : Ext w w') : FM2 G W1 w' mb kk k FV rows := by
  have hg : w.grownBy w' none := ⟨hx.os, hx.tape, hx.output, hx.size, fun k hk _ => hx.block k hk⟩
  refine ⟨h.ext.trans hx, h.mge, h.map.ext hx, h.kk, h.own.kept hg (by cases FV.ownBlock <;> simp), fun j v hj => ?_⟩
  obtain ⟨rv, h1, h2⟩ := h.row j v hj
  exact ⟨rv, h1, h2.kept hg (by cases rv.ownBlock <;> simp)⟩

/-- No circle through this component. -/
theorem FM2.none (h : FM2 G W1 w mb kk k FV rows) (hs : isStart G (compT G) (sizeT G) k = false) : FM G W1 w mb kk (k + 1) FV rows := by
  have e : startsT G (k + 1) = startsT G k := by
    unfold startsT
    rw [starts_succ, if_neg (by rw [hs]; simp)]
    simp
  exact ⟨h.ext, h.mge, h.map, h.kk, by rw [e]; exact h.own, by rw [e]; exact h.row⟩

/-- Behind 'found = append(found, circle)'. -/
theorem FM2.some {FV' rv : Value} (h : FM2 G W1 w mb kk k FV rows) (hs : isStart G (compT G) (sizeT G) k = true) (hr : w.ownsRow W1.heap.size 3 1 rv (circ G (compT G) k).length (ints (circ G (compT G) k)))
    (hg : w.grownBy w' FV.ownBlock) (hown : w'.ownsRow W1.heap.size 25 1 FV' ((startsT G k).length + 1) (rows ++ [rv])) : FM G W1 w' mb kk (k + 1) FV' (rows ++ [rv]) := by
  have e : startsT G (k + 1) = startsT G k ++ [k] := by
    unfold startsT
    rw [starts_succ, if_pos hs]
  have hl : rows.length = (startsT G k).length := by have := h.own.1; omega
  refine ⟨Below.grown h.ext hg h.ext.size (fun g hg => (h.own.lt g hg).1), h.mge, h.map.of_block (hg.block mb h.map.lt (fun e => own_ne_map h.own h.map e.symm)), h.kk, by rw [e, List.length_append]; exact hown, fun j v hj => ?_⟩
  rw [e] at hj
  by_cases hjl : j < (startsT G k).length
  · rw [List.getElem?_append_left hjl] at hj
    obtain ⟨rv', h1, h2⟩ := h.row j v hj
    exact ⟨rv', by rw [List.getElem?_append_left (by omega)]; exact h1, h2.kept hg (own_ne h2 h.own (by decide))⟩
  · have hj2 := (List.getElem?_eq_some_iff.1 hj).1
    simp at hj2
    have ej : j = (startsT G k).length := by omega
    subst ej
    simp at hj
    subst hj
    exact ⟨rv, by rw [← hl]; simp, hr.kept hg (own_ne hr h.own (by decide))⟩
end

/-- What Circles returns. -/
def CircsP (W : World) (G : Gr) (e : Ending) (w' : World) : Prop := ∃ (FV : Value) (rows : List Value), e = .returned FV ∧ Ext W w' ∧ w'.ownsRow W.heap.size 25 1 FV (startsT G G.n).length rows ∧
  ∀ (j v : Nat), (startsT G G.n)[j]? = some v → ∃ rv, rows[j]? = some rv ∧ w'.ownsRow W.heap.size 3 1 rv (circ G (compT G) v).length (ints (circ G (compT G) v))

set_option maxRecDepth 100000 in
set_option maxHeartbeats 1000000 in
theorem circles22 {G : Gr} {W : World} {ea : Option Addr} {eb : Nat} {RA : Nat → Option Addr} {RB : Nat → Nat} (hE : EdG W ea eb G RA RB) :
    Calls Try.prog 22 #[.slice ea G.n G.n] W (CircsP W G) := by
  have HE := hide hE
  have hsm := hE.small
  clear hE
  have hmm := makeMap35
  go_enter Try.func22, Try.ntmps22
  go_wp2_with fail
  refine (comp26 HE.out).mono ?_
  rintro e w1 ⟨aC, za, gz, zc, rfl, hx1, hc1, hza, hz1⟩
  have HX1 := hide hx1
  have HC := hide (show Cmp w1 (some ⟨aC, 0, none⟩) aC G.n (compT G) from ⟨fun _ => rfl, hc1⟩)
  have HZ := hide (show (0 < (sizeT G).length → za = some ⟨gz, 0, none⟩) ∧ ∀ (c x : Nat), (sizeT G)[c]? = some x → w1.cell? ⟨gz, c, none⟩ = some (.int .i64 (x : Int)) from ⟨hza, hz1⟩)
  have HS := hide (sccT HE.out.ok)
  rw [show (visitAll G G.n).size.length = (sizeT G).length from rfl]
  clear hx1 hc1 hza hz1
  go_wp2
  have HF := hide (show FM G w1 (w1.alloc (.map #[] 0)) w1.heap.size 0 0 (.slice none 0 0) [] from ⟨(Ext.refl w1).alloc _, Nat.le_refl _, VM.new w1 rfl, Nat.le_refl _, World.ownsRow_nil _ _ _ _, fun j v hj => by simp [startsT, starts] at hj⟩)
  generalize w1.alloc (.map #[] 0) = w2 at HF ⊢
  generalize hmb : w1.heap.size = mb at HF ⊢
  clear hmb
  go_loopg [5, 17] G.n (fun g f i wr => ∃ (k kk : Nat) (FV : Value) (rows : List Value), k + g = G.n ∧ i = .int .i64 (k : Int) ∧ FV = f ∧ FM G w1 wr mb kk k FV rows)
  case atStart => exact ⟨0, 0, _, [], by omega, rfl, rfl, HF.out⟩
  case round =>
    obtain ⟨k, kk, FV, rows, hk, rfl, rfl, hF⟩ := hrel
    have HK := hide hF
    clear hF HF
    by_cases hlt : k < G.n
    · obtain ⟨hr1, hr2⟩ := HS.out.range k hlt
      obtain ⟨c, hc⟩ : ∃ c : Nat, compT G k = (c : Int) := ⟨(compT G k).toNat, by omega⟩
      have hcl : c < (sizeT G).length := by omega
      have hfew := HS.out.few
      have HCC := hide hc
      have ccx := HK.out.ext.cell (HC.out.2 k hlt)
      rw [hc] at ccx
      clear hr1 hr2 hc
      have hlook := VM.look0 HK.out.map (c := c) (by omega)
      cases hd : doneB (compT G) k c with
      | true =>
        rw [hd] at hlook
        have HK2 := hide (HK.out.skip HCC.out hd)
        clear hd
        go_wp2
        go_roundg (G.n - (k + 1))
        case measure => omega
        case rel => exact ⟨k + 1, kk, FV, rows, by omega, by go_num, rfl, HK2.out⟩
      | false =>
        rw [hd] at hlook
        obtain ⟨w3, hrun, hVM, hgr⟩ := VM.put HK.out.map (c := c) (by omega) (by have := HK.out.kk; omega)
        have HK2 := hide (HK.out.mark HCC.out hVM hgr)
        have HFst := hide (show first (compT G) k = true from by rw [first_done HCC.out, hd]; rfl)
        clear hd hVM hgr
        obtain ⟨x, hx⟩ : ∃ x, (sizeT G)[c]? = some x := ⟨_, List.getElem?_eq_getElem hcl⟩
        have csz := HK2.out.ext.cell (HZ.out.2 c x hx)
        have HSZ := hide (show sizeAt (sizeT G) (compT G k) = x from by rw [HCC.out]; unfold sizeAt; rw [List.getD_eq_getElem?_getD]; simp [hx])
        clear hx
        obtain rfl := HZ.out.1 (by omega)
        have hxb : Hid (x ≤ x) := Nat.le_refl _
        have HE3 := hide (HE.out.ext (HX1.out.trans HK2.out.ext))
        obtain rfl := HE.out.ea (by omega)
        have geb := HE3.out.outer k hlt
        by_cases h1 : 1 < x
        · have hd1 : decide ((1 : Int) < (x : Int)) = true := by simp; omega
          have h1' : (1 : Int) < (x : Int) := by omega
          have HST := hide (show isStart G (compT G) (sizeT G) k = true from by unfold isStart isCyc; rw [HFst.out, HSZ.out]; simp [h1])
          clear h1
          go_wp2_with fail
          refine (circ28 HE3.out (show Cmp w3 (some ⟨aC, 0, none⟩) aC G.n (compT G) from ⟨fun _ => rfl, fun i hi => HK2.out.ext.cell (HC.out.2 i hi)⟩) hlt).mono ?_
          rintro e w4 ⟨rv, rfl, hx4, hrv⟩
          have HK4 := hide (HK2.out.later hx4)
          have HRV := hide (ownsRow_base hrv HK2.out.ext.size)
          obtain ⟨ra, rc, hrs⟩ := own_len hrv
          subst hrs
          clear hx4 hrv csz geb hlook ccx hrun
          go_wp2_with (at_builtin; refine stop ?_)
          apply Stop.go
          have HK5 := hide (HK4.out.later ((Ext.refl _).alloc (.cells #[.slice ra (circ G (compT G) k).length rc] 25)))
          have HRV5 := hide (HRV.out.alloc (.cells #[.slice ra (circ G (compT G) k).length rc] 25))
          obtain ⟨i0, hi, hz0, hz1, hz2⟩ := info_parts info25
          have hsl : (startsT G k).length ≤ 65536 := by have := starts_le (G := G) (comp := compT G) (size := sizeT G) k; unfold startsT; omega
          refine wpList_append_own_at _ rfl (.tmp 42) (.tmp 47) 22 rfl w1.heap.size 25 i0 (.slice none 0 0) 1 24 Try.underlying22 hi hz0 hz1 hz2 rfl (by decide) FV (startsT G k).length rows rfl HK5.out.own ⟨w4.heap.size, 0, none⟩ 1 1 [.slice ra (circ G (compT G) k).length rc] rfl rfl ?c1 ?c2 ?c3 ?c4 ?c5 ?_
          case c1 => exact one_new _ _ _ rfl
          case c2 => intro u hu; simp at hu; rcases hu with rfl; rfl
          case c3 => unfold maxLen; omega
          case c4 => omega
          case c5 => exact HK5.out.ext.size
          intro FV6 w6 hown6 hgrow6 hnil6 hat6
          have HK6 := hide (HK5.out.some HST.out HRV5.out hgrow6 hown6)
          clear hown6 hgrow6 hnil6 hat6 hi hz0 hz1 hz2
          go_wp2
          go_roundg (G.n - (k + 1))
          case measure => omega
          case rel => exact ⟨k + 1, kk + 1, FV6, _, by omega, by go_num, rfl, HK6.out⟩
        · have hd1 : decide ((1 : Int) < (x : Int)) = false := by simp; omega
          have h1' : ¬ (1 : Int) < (x : Int) := by omega
          have h1n := hide h1
          clear h1
          have HRA := hide (HE3.out.ra k hlt)
          have hlen := HE.out.len k hlt
          generalize RA k = rak at geb HRA
          go_wp2_with fail
          refine (contains29 rak (RB k) (G.adj k).length (G.adj k) k w3 hlen HRA.out (fun j y hj => HE3.out.inner k hlt j y hj)).mono ?_
          rintro e w3' ⟨rfl, hw3⟩
          rw [hw3]
          clear hw3
          by_cases hin : k ∈ G.adj k
          · have hdin : decide (k ∈ G.adj k) = true := by simp [hin]
            rw [hdin]
            have HST := hide (show isStart G (compT G) (sizeT G) k = true from by unfold isStart isCyc; rw [HFst.out, hdin]; simp)
            clear hin hdin
            go_wp2_with fail
            refine (circ28 HE3.out (show Cmp w3 (some ⟨aC, 0, none⟩) aC G.n (compT G) from ⟨fun _ => rfl, fun i hi => HK2.out.ext.cell (HC.out.2 i hi)⟩) hlt).mono ?_
            rintro e w4 ⟨rv, rfl, hx4, hrv⟩
            have HK4 := hide (HK2.out.later hx4)
            have HRV := hide (ownsRow_base hrv HK2.out.ext.size)
            obtain ⟨ra, rc, hrs⟩ := own_len hrv
            subst hrs
            clear hx4 hrv csz geb hlook ccx hrun
            go_wp2_with (at_builtin; refine stop ?_)
            apply Stop.go
            have HK5 := hide (HK4.out.later ((Ext.refl _).alloc (.cells #[.slice ra (circ G (compT G) k).length rc] 25)))
            have HRV5 := hide (HRV.out.alloc (.cells #[.slice ra (circ G (compT G) k).length rc] 25))
            obtain ⟨i0, hi, hz0, hz1, hz2⟩ := info_parts info25
            have hsl : (startsT G k).length ≤ 65536 := by have := starts_le (G := G) (comp := compT G) (size := sizeT G) k; unfold startsT; omega
            refine wpList_append_own_at _ rfl (.tmp 42) (.tmp 47) 22 rfl w1.heap.size 25 i0 (.slice none 0 0) 1 24 Try.underlying22 hi hz0 hz1 hz2 rfl (by decide) FV (startsT G k).length rows rfl HK5.out.own ⟨w4.heap.size, 0, none⟩ 1 1 [.slice ra (circ G (compT G) k).length rc] rfl rfl ?c1 ?c2 ?c3 ?c4 ?c5 ?_
            case c1 => exact one_new _ _ _ rfl
            case c2 => intro u hu; simp at hu; rcases hu with rfl; rfl
            case c3 => unfold maxLen; omega
            case c4 => omega
            case c5 => exact HK5.out.ext.size
            intro FV6 w6 hown6 hgrow6 hnil6 hat6
            have HK6 := hide (HK5.out.some HST.out HRV5.out hgrow6 hown6)
            clear hown6 hgrow6 hnil6 hat6 hi hz0 hz1 hz2
            go_wp2
            go_roundg (G.n - (k + 1))
            case measure => omega
            case rel => exact ⟨k + 1, kk + 1, FV6, _, by omega, by go_num, rfl, HK6.out⟩
          · have hdin : decide (k ∈ G.adj k) = false := by simp [hin]
            rw [hdin]
            have HST := hide (show isStart G (compT G) (sizeT G) k = false from by unfold isStart isCyc; rw [HFst.out, hdin, HSZ.out]; simp; exact Nat.not_lt.1 h1n.out)
            have HK3 := hide (HK2.out.none HST.out)
            clear hin hdin
            go_wp2
            go_roundg (G.n - (k + 1))
            case measure => omega
            case rel => exact ⟨k + 1, kk + 1, FV, rows, by omega, by go_num, rfl, HK3.out⟩
    · obtain rfl : k = G.n := by omega
      go_wp2
      go_ret
      refine ⟨FV, rows, rfl, HX1.out.trans HK.out.ext, ownsRow_base HK.out.own HX1.out.size, fun j v hj => ?_⟩
      obtain ⟨rv, h1, h2⟩ := HK.out.row j v hj
      exact ⟨rv, h1, ownsRow_base h2 HX1.out.size⟩
end Go.Proofs.Qxb6001235a
