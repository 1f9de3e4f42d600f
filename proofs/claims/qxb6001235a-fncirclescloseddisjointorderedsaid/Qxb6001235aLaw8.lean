import Derived.Test.Qxb6001235aPlain8
/-! Seat b6001235a: FnCirclesClosedDisjointOrdered walked. -/
namespace Go.Proofs.Qxb6001235a
set_option linter.unusedVariables false
open Go.RowKit Go.Maps

def TrueX (w : World) (e : Ending) (w' : World) : Prop := e = .returned (.bool true) ∧ Ext w w'

set_option maxRecDepth 100000 in
set_option maxHeartbeats 1000000 in
theorem law8 (a : Option Addr) (n c : Nat) (A : Nat → Option Addr) (L C : Nat → Nat) (R : Nat → Nat → Int) (w : World) (h : SlR w a n c A L C R) : Calls Try.prog 8 #[.slice a n c] w (TrueX w) := by
  obtain ⟨b, o, rb, ro, hI⟩ := h.open
  have H := hide hI
  have hn := hI.small
  clear h hI
  go_enter Try.func8, Try.ntmps8
  go_wp2_with fail
  refine (zz24 H.out).mono ?_
  rintro e1 w1 ⟨⟨b1, rfl⟩, hw1⟩
  rw [hw1]
  clear hw1 w1
  cases b1 with
  | false =>
    go_wp2
    go_ret
    exact ⟨rfl, Ext.refl w⟩
  | true =>
    go_wp2_with fail
    refine (fit11 H.out).mono ?_
    rintro e2 w2 ⟨⟨b2, rfl, hb2⟩, hw2⟩
    rw [hw2]
    clear hw2 w2
    cases b2 with
    | false =>
      clear hb2
      go_wp2
      go_ret
      exact ⟨rfl, Ext.refl w⟩
    | true =>
      have HF := hide (hb2 rfl)
      clear hb2
      by_cases hle : 65536 < n
      · go_wp2
        go_ret
        exact ⟨rfl, Ext.refl w⟩
      · have hle2 : n ≤ 65536 := by omega
        clear hle
        go_wp2_with fail
        refine (range12 H.out HF.out).mono ?_
        rintro e3 w3 ⟨⟨b3, rfl, hb3⟩, hw3⟩
        rw [hw3]
        clear hw3 w3
        cases b3 with
        | false =>
          clear hb3
          go_wp2
          go_ret
          exact ⟨rfl, Ext.refl w⟩
        | true =>
          have HR := hide (hb3 rfl)
          clear hb3
          go_wp2_with fail
          refine (clone13 H.out HF.out).mono ?_
          rintro e4 w4 ⟨ea, eb, RA, RB, rfl, hx4, hed⟩
          have HX4 := hide hx4
          have HE := hide (hed.graph hle2 HF.out HR.out)
          clear hx4 hed
          go_wp2_with fail
          refine (circles22 HE.out).mono ?_
          rintro e5 w5 ⟨FV, rows, rfl, hx5, hown, hrows⟩
          obtain ⟨fa, fg, fc, hFV, hFd⟩ := Fnd.of hx5 hown hrows
          subst hFV
          have HX5 := hide (HX4.out.trans hx5)
          have HFd := hide hFd
          have HE5 := hide (HE.out.ext hx5)
          have hsl : (startsT (grOf n L R) (grOf n L R).n).length ≤ (grOf n L R).n := starts_le (G := grOf n L R) (comp := compT (grOf n L R)) (size := sizeT (grOf n L R)) (grOf n L R).n
          clear hown hrows hx5 hFd HE HX4 HR HF H
          have hgn : (grOf n L R).n = n := rfl
          generalize grOf n L R = G at HFd HE5 hsl hgn ⊢
          subst hgn
          have hf1 : decide (((G.n : Nat) : Int) < ((startsT G G.n).length : Int)) = false := by simp; omega
          have hf2 : decide (G.n < (startsT G G.n).length) = false := by simp; omega
          have hmkb := run_make_row' (P := Try.prog) 30 4 (.bool false) 1 Try.underlying30 info4 rfl .i64 .i64 G.n (by omega) (by omega)
          go_wp2
          have HX6 := hide ((Ext.refl w5).alloc (.cells (madeCells #[.bool false] G.n) 4))
          have HS6 := hide (show (w5.alloc (.cells (madeCells #[.bool false] G.n) 4)).rowIs w5.heap.size 4 G.n (fun i => .bool ((fun _ => false : Nat → Bool) i)) from World.rowIs_made w5 _ G.n 4)
          generalize w5.alloc (.cells (madeCells #[.bool false] G.n) 4) = w6 at HX6 HS6 ⊢
          generalize hsb : w5.heap.size = sb at HS6 ⊢
          have HSB := hide (show w5.heap.size ≤ sb by omega)
          clear hsb
          have HO6 := hide (show SeenOk G 0 [] (fun _ => false) from fun x hx => by cases hx)
          go_loopg [6, 7] (startsT G G.n).length (fun g p i wr => ∃ (k : Nat) (pv : Int) (seen : Nat → Bool), k + g = (startsT G G.n).length ∧ p = .int .i64 pv ∧ i = .int .i64 (k : Int) ∧ Hid (∀ v, (startsT G G.n)[k]? = some v → pv < (v : Int)) ∧ Hid (Ext w5 wr) ∧ Hid (wr.rowIs sb 4 G.n (fun i => .bool (seen i))) ∧ Hid (SeenOk G k [] seen))
          case atStart => exact ⟨0, -1, _, by omega, rfl, rfl, fun v _ => by omega, HX6, HS6, HO6⟩
          case round =>
            obtain ⟨k, pv, seen, hk, rfl, rfl, HP, HX, HS, HO⟩ := hrel
            clear HX6 HS6 HO6
            by_cases hlt : k < (startsT G G.n).length
            · obtain rfl := HFd.out.at_ (by omega)
              obtain ⟨v, hv⟩ : ∃ v, (startsT G G.n)[k]? = some v := ⟨_, List.getElem?_eq_getElem hlt⟩
              obtain ⟨q, hq⟩ := circle_of HE5.out.ok (List.mem_of_getElem? hv)
              obtain ⟨pa, pg, pc, r1, r2, r3⟩ := HFd.out.row k v hv
              obtain ⟨m, hm⟩ : ∃ m, m = q.length + 1 := ⟨_, rfl⟩
              have hl : (circ G (compT G) v).length = m + 1 := by rw [hq.eq, hm]; simp
              rw [hl] at r1 r2
              obtain rfl := r2 (by omega)
              rw [hq.eq] at r3
              have hvn := hq.vn
              have hpv := HP.out v hv
              have hql : m ≤ 65536 := by
                have := cnt_nodup (v :: q) hq.nd (fun x hx => (hq.comp x hx).1)
                rw [List.length_cons] at this
                omega
              have hm1 : 1 ≤ m := by omega
              have HV := hide hv
              have HQ := hide hq
              have HR3 := hide r3
              have c1 := HX.out.cell r1
              have c0 : wr.cell? ⟨pg, 0, none⟩ = some (.int .i64 (v : Int)) := HX.out.cell (r3 0 v rfl)
              have cl : wr.cell? ⟨pg, m, none⟩ = some (.int .i64 (v : Int)) := HX.out.cell (r3 m v (by rw [hm]; simp))
              have HMQ := hide hm
              have HO1 := hide (show SeenOk G k ((v :: q).take 0) seen from HO.out)
              have ha1 : decide ((v : Int) < 0) = false := by simp
              have ha2 : decide ((G.n : Int) ≤ (v : Int)) = false := by simp; omega
              have ha3 : decide (G.n ≤ v) = false := by simp; omega
              have ha4 : decide ((v : Int) ≤ pv) = false := by simp; omega
              clear hv hq r1 r2 r3 hl hm
              go_wp2
              go_loopg [10] m (fun g i wr => ∃ (j : Nat) (seen : Nat → Bool), j + g = m ∧ i = .int .i64 (j : Int) ∧ Hid (Ext w5 wr) ∧ Hid (wr.rowIs sb 4 G.n (fun i => .bool (seen i))) ∧ Hid (SeenOk G k ((v :: q).take j) seen))
              case atStart => exact ⟨0, seen, by omega, rfl, HX, HS, HO1⟩
              case round =>
                obtain ⟨j, seen2, hj, rfl, HX2, HS2, HO2⟩ := hrel
                clear HX HS HO HO1 c1 c0 cl
                by_cases hjl : j < m
                · have hmq := HMQ.out
                  obtain ⟨x, hx⟩ : ∃ x, (v :: q)[j]? = some x := ⟨_, List.getElem?_eq_getElem (by rw [List.length_cons]; omega)⟩
                  have hx2 : (v :: (q ++ [v]))[j]? = some x := by
                    rw [show v :: (q ++ [v]) = (v :: q) ++ [v] from rfl, List.getElem?_append_left (by rw [List.length_cons]; omega)]
                    exact hx
                  obtain ⟨y, hy⟩ : ∃ y, (v :: (q ++ [v]))[j + 1]? = some y := ⟨_, List.getElem?_eq_getElem (by simp; omega)⟩
                  obtain ⟨hxn, hxc, hxv⟩ := HQ.out.comp x (List.mem_of_getElem? hx)
                  have hyx := HQ.out.walk j x y hx2 hy
                  have hyn : y < G.n := HE5.out.ok x hxn y hyx
                  have cj := HX2.out.cell (HR3.out j x hx2)
                  have cy := HX2.out.cell (HR3.out (j + 1) y hy)
                  have cs := HS2.out.cell hxn
                  have fs := HS2.out.frozen x
                  rw [HO2.out.free HV.out HQ.out hx] at cs
                  have HX3 := hide (show Ext w5 (wr.setCell ⟨sb, x, none⟩ (.bool true)) from Below.setCell HX2.out HSB.out _)
                  have HS3 := hide (show (wr.setCell ⟨sb, x, none⟩ (.bool true)).rowIs sb 4 G.n (fun i => .bool (upd seen2 x true i)) from (HS2.out.set x _).congr (fun i _ => by unfold upd; split <;> rfl))
                  have HO3 := hide (HO2.out.mark hx)
                  have cy2 : (wr.setCell ⟨sb, x, none⟩ (.bool true)).cell? ⟨pg, j + 1, none⟩ = some (.int .i64 (y : Int)) := HX3.out.cell (HR3.out (j + 1) y hy)
                  have HYX := hide hyx
                  clear hx hx2 hy hxc hyx hmq
                  have hd1 : decide ((x : Int) < (v : Int)) = false := by simp; omega
                  have hd2 : decide ((G.n : Int) ≤ (x : Int)) = false := by simp; omega
                  go_wp2_with fail
                  refine (has19 (HE5.out.ext HX3.out) x y hxn).mono ?_
                  rintro e8 w8 ⟨rfl, hw8⟩
                  rw [hw8, show decide (y ∈ G.adj x) = true from by simp [HYX.out]]
                  clear hw8
                  go_wp2
                  go_roundg (m - (j + 1))
                  case measure => omega
                  case rel => exact ⟨j + 1, _, by omega, by go_num, HX3, HS3, HO3⟩
                · have hO4 := HO2.out
                  rw [List.take_of_length_le (by have := HMQ.out; rw [List.length_cons]; omega)] at hO4
                  have HO4 := hide (hO4.through HV.out HQ.out)
                  have HP4 := hide (show ∀ u, (startsT G G.n)[k + 1]? = some u → (v : Int) < (u : Int) from fun u hu => by
                    have := starts_lt (G := G) (comp := compT G) (size := sizeT G) G.n
                    rw [List.pairwise_iff_getElem] at this
                    obtain ⟨a1, a2⟩ := List.getElem?_eq_some_iff.1 HV.out
                    obtain ⟨b1, b2⟩ := List.getElem?_eq_some_iff.1 hu
                    have h3 := this k (k + 1) a1 b1 (by omega)
                    unfold startsT at a2 b2
                    rw [a2, b2] at h3
                    omega)
                  clear hO4
                  go_wp2
                  go_roundg ((startsT G G.n).length - (k + 1))
                  case measure => omega
                  case rel => exact ⟨k + 1, (v : Int), seen2, by omega, rfl, by go_num, HP4, HX2, HS2, HO4⟩
            · go_wp2
              go_ret
              exact ⟨rfl, HX5.out.trans HX.out⟩
end Go.Proofs.Qxb6001235a
