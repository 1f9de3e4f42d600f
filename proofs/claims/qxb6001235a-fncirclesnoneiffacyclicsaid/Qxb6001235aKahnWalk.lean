import Derived.Test.Qxb6001235aCm
/-! Seat b6001235a: acyclicByKahn walked. -/
namespace Go.Proofs.Qxb6001235a
set_option linter.unusedVariables false
open Go.RowKit Go.Maps

/-- 'make([]int, 0, n)'. -/
theorem make_room (n : Nat) (hn : n ≤ 65536) (w : World) : (Instr.makeSlice 25 (.int .i64 0) (.int .i64 (n : Int))).run Try.prog w = .ok (.slice (some ⟨w.heap.size, 0, none⟩) 0 n) (w.alloc (.cells (madeCells #[.int .i64 0] n) 3)) := by
  obtain ⟨i, hi, hzz⟩ := Option.map_eq_some_iff.1 info3
  simp only [Prod.mk.injEq] at hzz
  obtain ⟨hz, hs, hb⟩ := hzz
  have hr := run_make (P := Try.prog) w 25 3 i (.int .i64 0) Try.underlying25 hi hz .i64 .i64 0 n (by omega) (by omega) (by rw [hb]; omega) (by omega)
  simp only [Int.toNat_natCast, hs, Nat.mul_one] at hr
  exact hr

/-- The degrees while they are counted: k rows are through, and j edges of the next. -/
def indAt (G : Gr) (k j w : Nat) : Int := (deg G (fun _ => false) w k : Int) + (((G.adj k).take j).count w : Int)
theorem indAt_step {G : Gr} {k j x : Nat} (h : (G.adj k)[j]? = some x) (i : Nat) : (if i = x then indAt G k j x + 1 else indAt G k j i) = indAt G k (j + 1) i := by
  unfold indAt
  rw [← take_snoc h, List.count_append]
  by_cases e : i = x
  · subst e; simp; omega
  · have h0 : [x].count i = 0 := List.count_eq_zero_of_not_mem (by simp; exact e)
    rw [if_neg e, h0]
    simp
theorem indAt_next {G : Gr} {k j : Nat} (h : (G.adj k).length ≤ j) (i : Nat) : indAt G k j i = indAt G (k + 1) 0 i := by
  unfold indAt
  rw [List.take_of_length_le h]
  simp [deg]
theorem indAt_le {G : Gr} {k j i : Nat} (hk : k ≤ 65536) (hl : ∀ v, v ≤ k → (G.adj v).length ≤ 131072) : 0 ≤ indAt G k j i ∧ indAt G k j i ≤ 9000000000000 := by
  unfold indAt
  have h1 := deg_le (G := G) (S := fun _ => false) (w := i) (k := k) (m := 131072) (fun v hv => hl v (by omega))
  have h2 : ((G.adj k).take j).count i ≤ ((G.adj k).take j).length := List.count_le_length
  have h3 := hl k (Nat.le_refl _)
  have h4 : ((G.adj k).take j).length ≤ (G.adj k).length := List.length_take_le' _ _
  have h5 : k * 131072 ≤ 65536 * 131072 := Nat.mul_le_mul_right _ hk
  omega

structure KQ (W w : World) (n ib : Nat) (ind : Nat → Int) (QV : Value) (q : List Nat) : Prop where
  ext : Ext W w
  ge : W.heap.size ≤ ib
  row : w.rowIs ib 3 n (fun i => .int .i64 (ind i))
  own : w.ownsRow W.heap.size 3 1 QV q.length (ints q)
  ne : QV.ownBlock ≠ some ib

section
variable {W w w' : World} {n ib : Nat} {ind : Nat → Int} {QV : Value} {q : List Nat}
theorem KQ.set (h : KQ W w n ib ind QV q) (x : Nat) (y : Int) : KQ W (w.setCell ⟨ib, x, none⟩ (.int .i64 y)) n ib (upd ind x y) QV q :=
  ⟨Below.setCell h.ext h.ge _, h.ge, (h.row.set x _).congr (fun i hi => by unfold upd; split <;> rfl), h.own.kept (grown_set _ _ _) (.inr h.ne), h.ne⟩
theorem KQ.later (h : KQ W w n ib ind QV q) (hx : Ext w w') : KQ W w' n ib ind QV q :=
  ⟨h.ext.trans hx, h.ge, h.row.of_block (hx.block _ h.row.lt), h.own.kept (row := none) ⟨hx.os, hx.tape, hx.output, hx.size, fun k hk _ => hx.block k hk⟩ (by cases QV.ownBlock <;> simp), h.ne⟩
theorem KQ.push {QV' : Value} {x : Nat} (h : KQ W w n ib ind QV q) (hg : w.grownBy w' QV.ownBlock) (hown : w'.ownsRow W.heap.size 3 1 QV' (q.length + 1) (ints q ++ [.int .i64 (x : Int)])) (hat : QV'.ownBlock = QV.ownBlock ∨ QV'.ownBlock = some w.heap.size) :
    KQ W w' n ib ind QV' (q ++ [x]) := by
  refine ⟨Below.grown h.ext hg h.ext.size (fun g hg => (h.own.lt g hg).1), h.ge, h.row.of_block (hg.block _ h.row.lt (fun e => h.ne e.symm)), by simpa [ints] using hown, ?_⟩
  rcases hat with e | e
  · rw [e]; exact h.ne
  · rw [e]
    intro e2
    have := h.row.lt
    simp at e2
    omega
end

theorem own_some {w : World} {base n c m : Nat} {a : Option Addr} {e : TypeId} {size : Nat} {xs : List Value} (h : w.ownsRow base e size (.slice a m c) n xs) (hn : 0 < n) : ∃ g, a = some ⟨g, 0, none⟩ := by
  rcases h.2 with ⟨h1, h2⟩ | ⟨g, cap, cur, h1, _⟩
  · omega
  · simp at h1
    exact ⟨g, h1.1⟩

def KahnP (W : World) (G : Gr) (e : Ending) (w' : World) : Prop := ∃ b, e = .returned (.bool b) ∧ (b = true ↔ ∀ v, v < G.n → ¬ G.Cyc v) ∧ Ext W w'

set_option maxRecDepth 100000 in
set_option maxHeartbeats 1000000 in
theorem kahn23 {G : Gr} {W : World} {ea : Option Addr} {eb : Nat} {RA : Nat → Option Addr} {RB : Nat → Nat} (hE : EdG W ea eb G RA RB) : Calls Try.prog 23 #[.slice ea G.n G.n] W (KahnP W G) := by
  have HE := hide hE
  have hsm := hE.small
  clear hE
  have hmk := run_make_row' (P := Try.prog) 25 3 (.int .i64 0) 8 Try.underlying25 info3 rfl .i64 .i64 G.n (by omega) (by omega)
  have hmr := make_room G.n hsm
  go_enter Try.func23, Try.ntmps23
  go_wp2
  have HR := hide (show (W.alloc (.cells (madeCells #[.int .i64 0] G.n) 3)).rowIs W.heap.size 3 G.n (fun i => .int .i64 (indAt G 0 0 i)) from (World.rowIs_made W _ G.n 3).congr (fun i _ => by simp [indAt, deg]))
  have HX := hide ((Ext.refl W).alloc (.cells (madeCells #[.int .i64 0] G.n) 3))
  generalize W.alloc (.cells (madeCells #[.int .i64 0] G.n) 3) = w1 at HR HX ⊢
  go_loopg [5] G.n (fun g i wr => ∃ k : Nat, k + g = G.n ∧ i = .int .i64 (k : Int) ∧ Hid (Ext W wr) ∧ Hid (wr.rowIs W.heap.size 3 G.n (fun i => .int .i64 (indAt G k 0 i))))
  case atStart => exact ⟨0, by omega, rfl, HX, HR⟩
  case round =>
    obtain ⟨k, hk, rfl, HX2, HR2⟩ := hrel
    clear HX HR
    by_cases hlt : k < G.n
    · obtain rfl := HE.out.ea (by omega)
      have geb := (HE.out.ext HX2.out).outer k hlt
      have HRA := hide (HE.out.ra k hlt)
      generalize RA k = ra at geb HRA
      have hlen := HE.out.len k hlt
      go_wp2
      go_loopg [7] (G.adj k).length (fun g i wr' => ∃ j : Nat, j + g = (G.adj k).length ∧ i = .int .i64 (j : Int) ∧ Hid (Ext W wr') ∧ Hid (wr'.rowIs W.heap.size 3 G.n (fun i => .int .i64 (indAt G k j i))))
      case atStart => exact ⟨0, by omega, rfl, HX2, HR2⟩
      case round =>
        obtain ⟨j, hj, rfl, HX3, HR3⟩ := hrel
        clear HX2 HR2 geb
        by_cases hjl : j < (G.adj k).length
        · obtain rfl := HRA.out (by omega)
          obtain ⟨x, hx⟩ : ∃ x, (G.adj k)[j]? = some x := ⟨_, List.getElem?_eq_getElem hjl⟩
          have hxn : x < G.n := HE.out.ok k hlt x (List.mem_of_getElem? hx)
          have hcx := (HE.out.ext HX3.out).inner k hlt j x hx
          have hci := HR3.out.cell hxn
          have hfi := HR3.out.frozen x
          have hbd := indAt_le (G := G) (k := k) (j := j) (i := x) (by omega) (fun v hv => HE.out.len v (by omega))
          obtain ⟨hb1, hb2⟩ := hbd
          have HX4 := hide (show Ext W (wr.setCell ⟨W.heap.size, x, none⟩ (.int .i64 (indAt G k j x + 1))) from Below.setCell HX3.out (Nat.le_refl _) _)
          have HR4 := hide (show (wr.setCell ⟨W.heap.size, x, none⟩ (.int .i64 (indAt G k j x + 1))).rowIs W.heap.size 3 G.n (fun i => .int .i64 (indAt G k (j + 1) i)) from (HR3.out.set x _).congr (fun i _ => by rw [← indAt_step hx i]; split <;> rfl))
          clear hx
          go_wp2
          go_roundg ((G.adj k).length - (j + 1))
          case measure => omega
          case rel => exact ⟨j + 1, by omega, by go_num, HX4, HR4⟩
        · have HR4 := hide (show wr.rowIs W.heap.size 3 G.n (fun i => .int .i64 (indAt G (k + 1) 0 i)) from HR3.out.congr (fun i _ => by rw [indAt_next (by omega)]))
          go_wp2
          go_roundg (G.n - (k + 1))
          case measure => omega
          case rel => exact ⟨k + 1, by omega, by go_num, HX3, HR4⟩
    · obtain rfl : k = G.n := by omega
      go_wp2
      have HI := hide (KM.init (G := G) (indAt G G.n 0) (fun w hw => by simp [indAt]))
      have HQ := hide (show KQ W (wr.alloc (.cells (madeCells #[.int .i64 0] G.n) 3)) G.n W.heap.size (indAt G G.n 0) (.slice (some ⟨wr.heap.size, 0, none⟩) 0 G.n) ((List.range 0).filter (fun w => decide (indAt G G.n 0 w = 0))) from
        ⟨HX2.out.alloc _, Nat.le_refl _, HR2.out.alloc _, World.ownsRow_made wr _ G.n HX2.out.size (by unfold maxLen; omega) (by simp [size_madeCells]), by have := HR2.out.lt; simp [Value.ownBlock]; omega⟩)
      generalize wr.alloc (.cells (madeCells #[.int .i64 0] G.n) 3) = w2 at HQ ⊢
      generalize (.slice (some ⟨wr.heap.size, 0, none⟩) 0 G.n : Value) = QV0 at HQ ⊢
      clear HX2 HR2
      go_loopg [8, 9] G.n (fun g f i wr => ∃ (k : Nat) (QV : Value), k + g = G.n ∧ QV = f ∧ i = .int .i64 (k : Int) ∧ Hid (KQ W wr G.n W.heap.size (indAt G G.n 0) QV ((List.range k).filter (fun w => decide (indAt G G.n 0 w = 0)))))
      case atStart => exact ⟨0, _, by omega, rfl, rfl, HQ⟩
      case round =>
        obtain ⟨k, QV, hk, rfl, rfl, HK⟩ := hrel
        clear HQ
        by_cases hlt2 : k < G.n
        · have hci := HK.out.row.cell hlt2
          have hql : ((List.range k).filter (fun w => decide (indAt G G.n 0 w = 0))).length ≤ 65536 := by
            have := List.length_filter_le (fun w => decide (indAt G G.n 0 w = 0)) (List.range k)
            rw [List.length_range] at this
            omega
          have hfs := hide (show (List.range (k + 1)).filter (fun w => decide (indAt G G.n 0 w = 0)) = (List.range k).filter (fun w => decide (indAt G G.n 0 w = 0)) ++ (if indAt G G.n 0 k = 0 then [k] else []) from by
            rw [List.range_succ, List.filter_append]
            congr 1
            by_cases e : indAt G G.n 0 k = 0
            · simp [e]
            · simp [e])
          generalize hql0 : (List.range k).filter (fun w => decide (indAt G G.n 0 w = 0)) = ql at HK hql hfs
          clear hql0
          by_cases e0 : indAt G G.n 0 k = 0
          · have hb : (indAt G G.n 0 k == 0) = true := by simp [e0]
            have hf2 := hfs.out
            rw [if_pos e0] at hf2
            have HF2 := hide hf2
            clear hf2 e0 hfs
            go_wp2_with (at_builtin; refine stop ?_)
            apply Stop.go
            have HQ4 := hide (HK.out.later ((Ext.refl _).alloc (.cells #[.int .i64 (k : Int)] 3)))
            obtain ⟨i0, hi, hz0, hz1, hz2⟩ := info_parts info3
            refine wpList_append_own_at _ rfl (.tmp 56) (.tmp 58) 25 rfl W.heap.size 3 i0 (.int .i64 0) 1 8 Try.underlying25 hi hz0 hz1 hz2 rfl (by decide) QV ql.length (ints ql) rfl HQ4.out.own ⟨wr.heap.size, 0, none⟩ 1 1 [.int .i64 (k : Int)] rfl rfl ?c1 ?c2 ?c3 ?c4 ?c5 ?_
            case c1 => exact one_new _ _ _ rfl
            case c2 => intro u hu; simp at hu; rcases hu with rfl; rfl
            case c3 => unfold maxLen; omega
            case c4 => omega
            case c5 => exact HQ4.out.ext.size
            intro QV6 w6 hown6 hgrow6 hnil6 hat6
            have HQ6 := hide (HQ4.out.push (x := k) hgrow6 hown6 hat6)
            clear hown6 hgrow6 hnil6 hat6 hi hz0 hz1 hz2
            go_wp2
            go_roundg (G.n - (k + 1))
            case measure => omega
            case rel => exact ⟨k + 1, QV6, by omega, rfl, by go_num, by rw [HF2.out]; exact HQ6⟩
          · have hb : (indAt G G.n 0 k == 0) = false := by simp [e0]
            have hf2 := hfs.out
            rw [if_neg e0, List.append_nil] at hf2
            have HF2 := hide hf2
            clear hf2 e0 hfs
            go_wp2
            go_roundg (G.n - (k + 1))
            case measure => omega
            case rel => exact ⟨k + 1, QV, by omega, rfl, by go_num, by rw [HF2.out]; exact HK⟩
        · obtain rfl : k = G.n := by omega
          go_wp2
          go_loopg [8, 10, 11] G.n (fun g f r i wr => ∃ (h : Nat) (QV : Value) (q : List Nat) (ind : Nat → Int) (S : Nat → Bool), h + g = G.n ∧ QV = f ∧ r = .int .i64 (h : Int) ∧ i = .int .i64 (h : Int) ∧ Hid (KQ W wr G.n W.heap.size ind QV q) ∧ Hid (KM G S h [] ind q))
          case atStart => exact ⟨0, _, _, _, _, by omega, rfl, rfl, rfl, HK, HI⟩
          case round =>
            obtain ⟨h, QV, q, ind, S, hh, rfl, rfl, rfl, HQ, HM⟩ := hrel
            clear HK HI
            obtain ⟨qa, qc, hqs⟩ := own_len HQ.out.own
            subst hqs
            have hqn := HM.out.len
            by_cases hlt3 : h < q.length
            · obtain ⟨v, hv⟩ : ∃ v, q[h]? = some v := ⟨_, List.getElem?_eq_getElem hlt3⟩
              obtain ⟨hvn, hM0⟩ := HM.out.begin hv
              have HM0 := hide hM0
              obtain ⟨gq, rfl⟩ := own_some HQ.out.own (by omega)
              have hcq : wr.cell? ⟨gq, h, none⟩ = some (.int .i64 (v : Int)) := by
                have h1 := HQ.out.own.cells (g := gq) rfl h (.int .i64 (v : Int)) (by simp [ints, List.getElem?_map, hv])
                rw [Addr.add_lit, Nat.zero_add] at h1
                exact h1
              clear hM0 hv
              obtain rfl := HE.out.ea (by omega)
              have geb := (HE.out.ext HQ.out.ext).outer v hvn
              have HRA := hide (HE.out.ra v hvn)
              generalize RA v = ra at geb HRA
              have hlen := HE.out.len v hvn
              go_wp2
              go_loopg [8, 14] (G.adj v).length (fun g f i wr => ∃ (j : Nat) (QV : Value) (q : List Nat) (ind : Nat → Int), j + g = (G.adj v).length ∧ QV = f ∧ i = .int .i64 (j : Int) ∧ Hid (KQ W wr G.n W.heap.size ind QV q) ∧ Hid (KM G (upd S v true) (h + 1) ((G.adj v).drop j) ind q))
              case atStart => exact ⟨0, _, q, ind, by omega, rfl, rfl, HQ, HM0⟩
              case round =>
                obtain ⟨j, QV2, q2, ind2, hj, rfl, rfl, HQ2, HM2⟩ := hrel
                clear hcq geb HM0 HQ
                have hqn2 := HM2.out.len
                by_cases hjl : j < (G.adj v).length
                · obtain rfl := HRA.out (by omega)
                  obtain ⟨x, hx⟩ : ∃ x, (G.adj v)[j]? = some x := ⟨_, List.getElem?_eq_getElem hjl⟩
                  have hxn : x < G.n := HE.out.ok v hvn x (List.mem_of_getElem? hx)
                  have hcx := (HE.out.ext HQ2.out.ext).inner v hvn j x hx
                  have hM3 := HM2.out
                  rw [drop_step hx] at hM3
                  obtain ⟨hb1, hM4⟩ := hM3.step hxn
                  have hb2 : ind2 x ≤ 9000000000000 := by
                    have h0 := hM3.kind x hxn
                    have h1 := deg_le (G := G) (S := upd S v true) (w := x) (k := G.n) (m := 131072) (fun u hu => HE.out.len u hu)
                    have h2 : (x :: (G.adj v).drop (j + 1)).count x ≤ (x :: (G.adj v).drop (j + 1)).length := List.count_le_length
                    have h3 : (x :: (G.adj v).drop (j + 1)).length ≤ 131073 := by simp [List.length_drop]; omega
                    have h5 : G.n * 131072 ≤ 65536 * 131072 := Nat.mul_le_mul_right _ hsm
                    omega
                  have hci := HQ2.out.row.cell hxn
                  have hfi := HQ2.out.row.frozen x
                  clear hx hM3
                  by_cases e0 : ind2 x - 1 = 0
                  · rw [if_pos e0] at hM4
                    have HM4 := hide hM4
                    have hb : (ind2 x - 1 == 0) = true := by simp [e0]
                    clear hM4 e0
                    go_wp2_with (at_builtin; refine stop ?_)
                    apply Stop.go
                    have HQ4 := hide ((HQ2.out.set x (ind2 x - 1)).later ((Ext.refl _).alloc (.cells #[.int .i64 (x : Int)] 3)))
                    obtain ⟨i0, hi, hz0, hz1, hz2⟩ := info_parts info3
                    refine wpList_append_own_at _ rfl (.tmp 97) (.tmp 99) 25 rfl W.heap.size 3 i0 (.int .i64 0) 1 8 Try.underlying25 hi hz0 hz1 hz2 rfl (by decide) QV2 q2.length (ints q2) rfl HQ4.out.own ⟨wr.heap.size, 0, none⟩ 1 1 [.int .i64 (x : Int)] rfl rfl ?c1 ?c2 ?c3 ?c4 ?c5 ?_
                    case c1 => exact one_new _ _ _ (by simp [World.setCell])
                    case c2 => intro u hu; simp at hu; rcases hu with rfl; rfl
                    case c3 => unfold maxLen; omega
                    case c4 => omega
                    case c5 => exact HQ4.out.ext.size
                    intro QV6 w6 hown6 hgrow6 hnil6 hat6
                    have HQ6 := hide (HQ4.out.push (x := x) hgrow6 hown6 hat6)
                    clear hown6 hgrow6 hnil6 hat6 hi hz0 hz1 hz2
                    go_wp2
                    go_roundg ((G.adj v).length - (j + 1))
                    case measure => omega
                    case rel => exact ⟨j + 1, QV6, _, _, by omega, rfl, by go_num, HQ6, HM4⟩
                  · rw [if_neg e0] at hM4
                    have HM4 := hide hM4
                    have hb : (ind2 x - 1 == 0) = false := by simp [e0]
                    have HQ4 := hide (HQ2.out.set x (ind2 x - 1))
                    clear hM4 e0
                    go_wp2
                    go_roundg ((G.adj v).length - (j + 1))
                    case measure => omega
                    case rel => exact ⟨j + 1, QV2, q2, _, by omega, rfl, by go_num, HQ4, HM4⟩
                · have hM3 := HM2.out
                  rw [List.drop_of_length_le (by omega)] at hM3
                  have HM3 := hide hM3
                  clear hM3
                  go_wp2
                  go_roundg (G.n - (h + 1))
                  case measure => omega
                  case rel => exact ⟨h + 1, QV2, q2, ind2, upd S v true, by omega, rfl, by go_num, by go_num, HQ2, HM3⟩
            · have eh : h = q.length := by have := HM.out.hle; omega
              have HM2 := HM.out
              rw [eh] at HM2
              have HL := hide (HM2.last HE.out.ok (tarjan HE.out.ok))
              have HEH := hide eh
              clear eh HM2
              go_wp2
              go_ret
              refine ⟨_, rfl, ?_, HQ.out.ext⟩
              rw [← HL.out, ← HEH.out]
              show ((h : Int) == (G.n : Int)) = true ↔ h = G.n
              rw [beq_iff_eq]
              omega
end Go.Proofs.Qxb6001235a
