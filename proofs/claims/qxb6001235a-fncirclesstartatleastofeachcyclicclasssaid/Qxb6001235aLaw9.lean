import Derived.Test.Qxb6001235aPlain8
import Derived.Test.Qxb6001235aReach
/-! Seat b6001235a: FnCirclesStartAtLeastOfEachCyclicClass walked. -/
namespace Go.Proofs.Qxb6001235a
set_option linter.unusedVariables false
open Go.RowKit Go.Maps

/-- The starts by the search alone. -/
theorem isStart_of {G : Gr} (hG : G.ok) {k : Nat} (hk : k < G.n) (hc : G.Cyc k) (hl : ∀ u, u < k → ¬ (G.Reach u k ∧ G.Reach k u)) : isStart G (compT G) (sizeT G) k = true := by
  unfold isStart
  rw [Bool.and_eq_true]
  refine ⟨first_iff.2 (fun u hu e => ?_), (isCyc_iff hG (sccT hG) hk).2 hc⟩
  exact hl u hu (((sccT hG).same u k (by omega) hk).1 e)
theorem not_start_cyc {G : Gr} (hG : G.ok) {k : Nat} (hk : k < G.n) (hc : ¬ G.Cyc k) : isStart G (compT G) (sizeT G) k = false := by
  unfold isStart
  rw [Bool.and_eq_false_iff]
  right
  rw [Bool.eq_false_iff]
  exact fun h => hc ((isCyc_iff hG (sccT hG) hk).1 h)
theorem not_start_least {G : Gr} (hG : G.ok) {k u : Nat} (hk : k < G.n) (hu : u < k) (h : G.Reach u k ∧ G.Reach k u) : isStart G (compT G) (sizeT G) k = false := by
  unfold isStart
  rw [Bool.and_eq_false_iff]
  left
  rw [Bool.eq_false_iff]
  exact fun h2 => first_iff.1 h2 u hu (((sccT hG).same u k (by omega) hk).2 h)
theorem startsT_yes {G : Gr} {k : Nat} (h : isStart G (compT G) (sizeT G) k = true) : startsT G (k + 1) = startsT G k ++ [k] := by
  unfold startsT; rw [starts_succ, if_pos h]
theorem startsT_no {G : Gr} {k : Nat} (h : isStart G (compT G) (sizeT G) k = false) : startsT G (k + 1) = startsT G k := by
  unfold startsT; rw [starts_succ, if_neg (by rw [h]; simp)]; simp

/-- The row 'expected' while it grows. -/
structure XQ (B w : World) (EV : Value) (l : List Nat) : Prop where
  ext : Ext B w
  own : w.ownsRow B.heap.size 3 1 EV l.length (ints l)
theorem XQ.later {B w w' : World} {EV : Value} {l : List Nat} (h : XQ B w EV l) (hx : Ext w w') : XQ B w' EV l :=
  ⟨h.ext.trans hx, h.own.kept (row := none) ⟨hx.os, hx.tape, hx.output, hx.size, fun k hk _ => hx.block k hk⟩ (by cases EV.ownBlock <;> simp)⟩
theorem XQ.push {B w w' : World} {EV EV' : Value} {l : List Nat} {x : Nat} (h : XQ B w EV l) (hg : w.grownBy w' EV.ownBlock) (hown : w'.ownsRow B.heap.size 3 1 EV' (l.length + 1) (ints l ++ [.int .i64 (x : Int)])) : XQ B w' EV' (l ++ [x]) :=
  ⟨Below.grown h.ext hg h.ext.size (fun g hg => (h.own.lt g hg).1), by simpa [ints] using hown⟩
theorem MR.later {G : Gr} {W w w' : World} {SB : Nat → Nat} {seen : Nat → Nat → Bool} (h : MR G W w G.n SB seen) (hx : Ext w w') : MR G W w' G.n SB seen :=
  ⟨h.ext.trans hx, Nat.lt_of_lt_of_le h.lt hx.size, h.outer.of_block (hx.block _ h.outer.lt), h.ge, fun i hi j hj => hx.cell (h.inner i hi j hj), h.ok⟩
theorem MR.at {G : Gr} {W w : World} {SB : Nat → Nat} {seen : Nat → Nat → Bool} (h : MR G W w G.n SB seen) {i j : Nat} (hi : i < G.n) (hj : j < G.n) : w.cell? ⟨W.heap.size, i, none⟩ = some (.slice (some ⟨SB i, 0, none⟩) G.n G.n) ∧ w.cell? ⟨SB i, j, none⟩ = some (.bool (seen i j)) :=
  ⟨by have := h.outer.cell hi; simpa [hi] using this, h.inner i hi j hj⟩

def TrueX (w : World) (e : Ending) (w' : World) : Prop := e = .returned (.bool true) ∧ Ext w w'

set_option maxRecDepth 100000 in
set_option maxHeartbeats 1000000 in
theorem law9 (a : Option Addr) (n c : Nat) (A : Nat → Option Addr) (L C : Nat → Nat) (R : Nat → Nat → Int) (w : World) (h : SlR w a n c A L C R) : Calls Try.prog 9 #[.slice a n c] w (TrueX w) := by
  obtain ⟨b, o, rb, ro, hI⟩ := h.open
  have H := hide hI
  have hn := hI.small
  clear h hI
  go_enter Try.func9, Try.ntmps9
  go_wp2_with fail
  refine (zz25 H.out).mono ?_
  rintro e1 w1 ⟨⟨b1, rfl⟩, hw1⟩
  rw [hw1]
  clear hw1 w1
  cases b1 with
  | false =>
    go_wp2
    go_ret
    exact ⟨rfl, Ext.refl w⟩
  | true =>
    go_wp2_with fail
    refine (fit11 H.out).mono ?_
    rintro e2 w2 ⟨⟨b2, rfl, hb2⟩, hw2⟩
    rw [hw2]
    clear hw2 w2
    cases b2 with
    | false =>
      clear hb2
      go_wp2
      go_ret
      exact ⟨rfl, Ext.refl w⟩
    | true =>
      have HF := hide (hb2 rfl)
      clear hb2
      by_cases hle : 256 < n
      · go_wp2
        go_ret
        exact ⟨rfl, Ext.refl w⟩
      · have hle2 : n ≤ 256 := by omega
        clear hle
        go_wp2_with fail
        refine (range12 H.out HF.out).mono ?_
        rintro e3 w3 ⟨⟨b3, rfl, hb3⟩, hw3⟩
        rw [hw3]
        clear hw3 w3
        cases b3 with
        | false =>
          clear hb3
          go_wp2
          go_ret
          exact ⟨rfl, Ext.refl w⟩
        | true =>
          have HR := hide (hb3 rfl)
          clear hb3
          go_wp2_with fail
          refine (clone13 H.out HF.out).mono ?_
          rintro e4 w4 ⟨ea, eb, RA, RB, rfl, hx4, hed⟩
          have HX4 := hide hx4
          have HE := hide (hed.graph (by omega) HF.out HR.out)
          clear hx4 hed
          go_wp2_with fail
          refine (matrix17 HE.out).mono ?_
          rintro e5 w5 ⟨SB, seen, rfl, hmr⟩
          have HX5 := hide (HX4.out.trans hmr.ext)
          have HE5 := hide (HE.out.ext hmr.ext)
          have HM := hide hmr
          clear hmr HE HX4 HR HF H
          generalize hmb : w4.heap.size = mb at HM ⊢
          have HMB := hide hmb
          clear hmb
          have hgn : (grOf n L R).n = n := rfl
          have hmr := make_room' n (by omega)
          generalize grOf n L R = G at HE5 HM hgn ⊢
          subst hgn
          go_wp2
          have HQ0 := hide (show XQ w5 (w5.alloc (.cells (madeCells #[.int .i64 0] G.n) 3)) (.slice (some ⟨w5.heap.size, 0, none⟩) 0 G.n) (startsT G 0) from ⟨(Ext.refl w5).alloc _, World.ownsRow_made w5 _ G.n (Nat.le_refl _) (by unfold maxLen; omega) (by simp [size_madeCells])⟩)
          generalize w5.alloc (.cells (madeCells #[.int .i64 0] G.n) 3) = w6 at HQ0 ⊢
          generalize (.slice (some ⟨w5.heap.size, 0, none⟩) 0 G.n : Value) = EV0 at HQ0 ⊢
          go_loopg [5, 6] G.n (fun g f i wr => ∃ (k : Nat) (EV : Value), k + g = G.n ∧ EV = f ∧ i = .int .i64 (k : Int) ∧ Hid (XQ w5 wr EV (startsT G k)))
          case atStart => exact ⟨0, _, by omega, rfl, rfl, HQ0⟩
          case round =>
            obtain ⟨k, EV, hk, rfl, rfl, HQ⟩ := hrel
            clear HQ0
            by_cases hlt : k < G.n
            · obtain rfl := HE5.out.ea (by omega)
              have geb := (HE5.out.ext HQ.out.ext).outer k hlt
              have HRA := hide (HE5.out.ra k hlt)
              generalize RA k = ra at geb HRA
              have hlen := HE5.out.len k hlt
              have HMw := hide (HM.out.later HQ.out.ext)
              obtain ⟨wo, rfl⟩ : ∃ wo, wo = wr := ⟨wr, rfl⟩
              go_wp2
              go_loopg [7, 9] (G.adj k).length (fun g t i wr => ∃ j : Nat, j + g = (G.adj k).length ∧ t = .bool false ∧ i = .int .i64 (j : Int) ∧ wo = wr ∧ Hid (∀ x, x ∈ (G.adj k).take j → ¬ G.Reach x k))
              case atStart => exact ⟨0, by omega, rfl, rfl, rfl, fun x hx => by simp at hx⟩
              case round =>
                obtain ⟨j, hj, rfl, rfl, rfl, HN⟩ := hrel
                by_cases hjl : j < (G.adj k).length
                · obtain rfl := HRA.out (by omega)
                  obtain ⟨x, hx⟩ : ∃ x, (G.adj k)[j]? = some x := ⟨_, List.getElem?_eq_getElem hjl⟩
                  have hxa := List.mem_of_getElem? hx
                  have hxn : x < G.n := HE5.out.ok k hlt x hxa
                  have hcx := (HE5.out.ext HQ.out.ext).inner k hlt j x hx
                  obtain ⟨m1, m2⟩ := HMw.out.at hxn hlt
                  rw [HMB.out] at m1
                  have HTS := hide (take_snoc hx)
                  clear hx
                  cases hsx : seen x k with
                  | false =>
                    rw [hsx] at m2
                    have HN2 := hide (show ∀ y, y ∈ (G.adj k).take (j + 1) → ¬ G.Reach y k from fun y hy => by
                      rw [← HTS.out] at hy
                      rcases List.mem_append.1 hy with h | h
                      · exact HN.out y h
                      · simp at h
                        subst h
                        intro hr
                        have := (HM.out.ok y hxn k).2 hr
                        rw [hsx] at this
                        cases this)
                    clear hsx
                    go_wp2
                    go_roundg ((G.adj k).length - (j + 1))
                    case measure => omega
                    case rel => exact ⟨j + 1, by omega, rfl, by go_num, rfl, HN2⟩
                  | true =>
                    rw [hsx] at m2
                    have HCyc := hide (show G.Cyc k from ⟨x, hxa, (HM.out.ok x hxn k).1 hsx⟩)
                    clear hsx
                    go_wp2
                    go_loopg [10, 11] k (fun g t i wr => ∃ u : Nat, u + g = k ∧ t = .bool true ∧ i = .int .i64 (u : Int) ∧ wo = wr ∧ Hid (∀ y, y < u → ¬ (G.Reach y k ∧ G.Reach k y)))
                    case atStart => exact ⟨0, by omega, rfl, rfl, rfl, fun y hy => by omega⟩
                    case round =>
                      obtain ⟨u, hu, rfl, rfl, rfl, HU⟩ := hrel
                      clear m1 m2 hcx geb
                      by_cases hul : u < k
                      · obtain ⟨a1, a2⟩ := HMw.out.at (show u < G.n by omega) hlt
                        obtain ⟨b1, b2⟩ := HMw.out.at hlt (show u < G.n by omega)
                        rw [HMB.out] at a1 b1
                        cases hs1 : seen u k with
                        | false =>
                          rw [hs1] at a2
                          have HU2 := hide (show ∀ y, y < u + 1 → ¬ (G.Reach y k ∧ G.Reach k y) from fun y hy h => by
                            rcases Nat.lt_or_ge y u with h2 | h2
                            · exact HU.out y h2 h
                            · have e : y = u := by omega
                              subst e
                              have := (HM.out.ok y (by omega) k).2 h.1
                              rw [hs1] at this
                              cases this)
                          clear hs1
                          go_wp2
                          go_roundg (k - (u + 1))
                          case measure => omega
                          case rel => exact ⟨u + 1, by omega, rfl, by go_num, rfl, HU2⟩
                        | true =>
                          rw [hs1] at a2
                          cases hs2 : seen k u with
                          | false =>
                            rw [hs2] at b2
                            have HU2 := hide (show ∀ y, y < u + 1 → ¬ (G.Reach y k ∧ G.Reach k y) from fun y hy h => by
                              rcases Nat.lt_or_ge y u with h2 | h2
                              · exact HU.out y h2 h
                              · have e : y = u := by omega
                                subst e
                                have := (HM.out.ok k hlt y).2 h.2
                                rw [hs2] at this
                                cases this)
                            clear hs1 hs2
                            go_wp2
                            go_roundg (k - (u + 1))
                            case measure => omega
                            case rel => exact ⟨u + 1, by omega, rfl, by go_num, rfl, HU2⟩
                          | true =>
                            rw [hs2] at b2
                            have HST := hide (not_start_least HE5.out.ok hlt hul ⟨(HM.out.ok u (by omega) k).1 hs1, (HM.out.ok k hlt u).1 hs2⟩)
                            clear hs1 hs2
                            go_wp2
                            go_roundg (G.n - (k + 1))
                            case measure => omega
                            case rel => exact ⟨k + 1, EV, by omega, rfl, by go_num, by rw [startsT_no HST.out]; exact HQ⟩
                      · obtain rfl : u = k := by omega
                        have HST := hide (isStart_of HE5.out.ok hlt HCyc.out HU.out)
                        go_wp2_with (at_builtin; refine stop ?_)
                        apply Stop.go
                        have HQ4 := hide (HQ.out.later ((Ext.refl _).alloc (.cells #[.int .i64 (u : Int)] 3)))
                        obtain ⟨i0, hi, hz0, hz1, hz2⟩ := info_parts info3
                        have hsl : (startsT G u).length ≤ 65536 := by have := starts_le (G := G) (comp := compT G) (size := sizeT G) u; unfold startsT; omega
                        refine wpList_append_own_at _ rfl (.tmp 83) (.tmp 85) 25 rfl w5.heap.size 3 i0 (.int .i64 0) 1 8 Try.underlying25 hi hz0 hz1 hz2 rfl (by decide) EV (startsT G u).length (ints (startsT G u)) rfl HQ4.out.own ⟨wo.heap.size, 0, none⟩ 1 1 [.int .i64 (u : Int)] rfl rfl ?c1 ?c2 ?c3 ?c4 ?c5 ?_
                        case c1 => exact one_new _ _ _ rfl
                        case c2 => intro y hy; simp at hy; rcases hy with rfl; rfl
                        case c3 => unfold maxLen; omega
                        case c4 => omega
                        case c5 => exact HQ4.out.ext.size
                        intro EV6 w7 hown6 hgrow6 hnil6 hat6
                        have HQ6 := hide (HQ4.out.push (x := u) hgrow6 hown6)
                        clear hown6 hgrow6 hnil6 hat6 hi hz0 hz1 hz2
                        go_wp2
                        go_roundg (G.n - (u + 1))
                        case measure => omega
                        case rel => exact ⟨u + 1, EV6, by omega, rfl, by go_num, by rw [startsT_yes HST.out]; exact HQ6⟩
                · have HST := hide (not_start_cyc HE5.out.ok hlt (fun ⟨x, h1, h2⟩ => HN.out x (by rw [List.take_of_length_le (by omega)]; exact h1) h2))
                  go_wp2
                  go_roundg (G.n - (k + 1))
                  case measure => omega
                  case rel => exact ⟨k + 1, EV, by omega, rfl, by go_num, by rw [startsT_no HST.out]; exact HQ⟩
            · obtain rfl : k = G.n := by omega
              obtain ⟨xa, xg, xc, hRow⟩ := Row.of_own HQ.out.ext HQ.out.own
              obtain rfl := hRow.sh
              have HRow := hide hRow
              clear hRow
              go_wp2_with fail
              refine (circles22 (HE5.out.ext HQ.out.ext)).mono ?_
              rintro e7 w7 ⟨FV, rows, rfl, hx7, hown, hrows⟩
              obtain ⟨fa, fg, fc, hFV, hFd⟩ := Fnd.of hx7 hown hrows
              subst hFV
              have HX7 := hide (HQ.out.ext.trans hx7)
              have HXr := hide hx7
              have HFd := hide hFd
              have hsl : (startsT G G.n).length ≤ G.n := starts_le (G := G) (comp := compT G) (size := sizeT G) G.n
              clear hown hrows hx7 hFd
              go_wp2
              go_loopg [13] (startsT G G.n).length (fun g i wr => ∃ k : Nat, k + g = (startsT G G.n).length ∧ i = .int .i64 (k : Int) ∧ Hid (Ext w7 wr))
              case atStart => exact ⟨0, by omega, rfl, Ext.refl w7⟩
              case round =>
                obtain ⟨k, hk2, rfl, HXk⟩ := hrel
                by_cases hlt2 : k < (startsT G G.n).length
                · obtain rfl := HFd.out.at_ (by omega)
                  obtain rfl := HRow.out.at_ (by omega)
                  obtain ⟨v, hv⟩ : ∃ v, (startsT G G.n)[k]? = some v := ⟨_, List.getElem?_eq_getElem hlt2⟩
                  obtain ⟨q, hq⟩ := circle_of HE5.out.ok (List.mem_of_getElem? hv)
                  obtain ⟨pa, pg, pc, r1, r2, r3⟩ := HFd.out.row k v hv
                  obtain ⟨m, hm⟩ : ∃ m, m = q.length + 1 := ⟨_, rfl⟩
                  have hl : (circ G (compT G) v).length = m + 1 := by rw [hq.eq, hm]; simp
                  rw [hl] at r1 r2
                  obtain rfl := r2 (by omega)
                  rw [hq.eq] at r3
                  have c1 := HXk.out.cell r1
                  have c0 : wr.cell? ⟨pg, 0, none⟩ = some (.int .i64 (v : Int)) := HXk.out.cell (r3 0 v rfl)
                  have ce : wr.cell? ⟨xg, k, none⟩ = some (.int .i64 (v : Int)) := (HXr.out.trans HXk.out).cell (HRow.out.cell k v hv)
                  have hql : m ≤ 65536 := by
                    have := cnt_nodup (v :: q) hq.nd (fun x hx => (hq.comp x hx).1)
                    rw [List.length_cons] at this
                    omega
                  have hb1 : ((m : Int) + 1 == 0) = false := by simp; omega
                  clear hv hq r1 r2 r3 hl hm
                  go_wp2
                  go_quiet (fail)
                  go_wp2
                  go_roundg ((startsT G G.n).length - (k + 1))
                  case measure => omega
                  case rel => exact ⟨k + 1, by omega, by go_num, below_drewN HXk.out nq⟩
                · go_wp2
                  go_ret
                  exact ⟨rfl, HX5.out.trans (HX7.out.trans HXk.out)⟩
end Go.Proofs.Qxb6001235a
