import Derived.Test.Qxb6001235aMem
/-! Seat b6001235a: reachFrom, reachMatrix walked. -/
namespace Go.Proofs.Qxb6001235a
set_option linter.unusedVariables false
open Go.RowKit Go.Maps

theorem info4' : (Try.prog.info? 4).map (fun i => (i.zero, i.size, i.bytes)) = some (some (.bool false), 1, 1) := by kernel_rfl
theorem info30' : (Try.prog.info? 30).map (fun i => (i.zero, i.size, i.bytes)) = some (some (.slice none 0 0), 1, 24) := by kernel_rfl
/-- 'make([]int, 0, n)'. -/
theorem make_room' (n : Nat) (hn : n ≤ 65536) (w : World) : (Instr.makeSlice 25 (.int .i64 0) (.int .i64 (n : Int))).run Try.prog w = .ok (.slice (some ⟨w.heap.size, 0, none⟩) 0 n) (w.alloc (.cells (madeCells #[.int .i64 0] n) 3)) := by
  obtain ⟨i, hi, hzz⟩ := Option.map_eq_some_iff.1 info3
  simp only [Prod.mk.injEq] at hzz
  obtain ⟨hz, hs, hb⟩ := hzz
  have hr := run_make (P := Try.prog) w 25 3 i (.int .i64 0) Try.underlying25 hi hz .i64 .i64 0 n (by omega) (by omega) (by rw [hb]; omega) (by omega)
  simp only [Int.toNat_natCast, hs, Nat.mul_one] at hr
  exact hr

structure RQ (W w : World) (n sb : Nat) (seen : Nat → Bool) (QV : Value) (q : List Nat) : Prop where
  ext : Ext W w
  ge : W.heap.size ≤ sb
  row : w.rowIs sb 4 n (fun i => .bool (seen i))
  own : w.ownsRow W.heap.size 3 1 QV q.length (ints q)
  ne : QV.ownBlock ≠ some sb

section
variable {W w w' : World} {n sb : Nat} {seen : Nat → Bool} {QV : Value} {q : List Nat}
theorem RQ.set (h : RQ W w n sb seen QV q) (x : Nat) (y : Bool) : RQ W (w.setCell ⟨sb, x, none⟩ (.bool y)) n sb (upd seen x y) QV q :=
  ⟨Below.setCell h.ext h.ge _, h.ge, (h.row.set x _).congr (fun i hi => by unfold upd; split <;> rfl), h.own.kept (grown_set _ _ _) (.inr h.ne), h.ne⟩
theorem RQ.later (h : RQ W w n sb seen QV q) (hx : Ext w w') : RQ W w' n sb seen QV q :=
  ⟨h.ext.trans hx, h.ge, h.row.of_block (hx.block _ h.row.lt), h.own.kept (row := none) ⟨hx.os, hx.tape, hx.output, hx.size, fun k hk _ => hx.block k hk⟩ (by cases QV.ownBlock <;> simp), h.ne⟩
theorem RQ.push {QV' : Value} {x : Nat} (h : RQ W w n sb seen QV q) (hg : w.grownBy w' QV.ownBlock) (hown : w'.ownsRow W.heap.size 3 1 QV' (q.length + 1) (ints q ++ [.int .i64 (x : Int)])) (hat : QV'.ownBlock = QV.ownBlock ∨ QV'.ownBlock = some w.heap.size) :
    RQ W w' n sb seen QV' (q ++ [x]) := by
  refine ⟨Below.grown h.ext hg h.ext.size (fun g hg => (h.own.lt g hg).1), h.ge, h.row.of_block (hg.block _ h.row.lt (fun e => h.ne e.symm)), by simpa [ints] using hown, ?_⟩
  rcases hat with e | e
  · rw [e]; exact h.ne
  · rw [e]
    intro e2
    have := h.row.lt
    simp at e2
    omega
theorem RQ.pop {g cap x : Nat} {r : List Nat} (h : RQ W w n sb seen (.slice (some ⟨g, 0, none⟩) (r.length + 1) cap) (r ++ [x])) : RQ W w n sb seen (.slice (some ⟨g, 0, none⟩) r.length cap) r := by
  refine ⟨h.ext, h.ge, h.row, ?_, h.ne⟩
  exact ownsRow_pop (size := 1) (n := r.length) (xs := ints r) (last := [.int .i64 (x : Int)]) (by simp [ints]) (by simpa [ints] using h.own)
end

theorem own_some' {w : World} {base n c m : Nat} {a : Option Addr} {e : TypeId} {size : Nat} {xs : List Value} (h : w.ownsRow base e size (.slice a m c) n xs) (hn : 0 < n) : ∃ g, a = some ⟨g, 0, none⟩ := by
  rcases h.2 with ⟨h1, h2⟩ | ⟨g, cap, cur, h1, _⟩
  · omega
  · simp at h1
    exact ⟨g, h1.1⟩

theorem rq_start (W : World) (n s : Nat) (hn : n ≤ 65536) : RQ W ((W.alloc (.cells ((madeCells #[.bool false] n).setIfInBounds s (.bool true)) 4)).alloc (.cells (madeCells #[.int .i64 0] n) 3)) n W.heap.size (upd (fun _ => false) s true) (.slice (some ⟨W.heap.size + 1, 0, none⟩) 0 n) [] := by
  refine ⟨((Ext.refl W).alloc _).alloc _, Nat.le_refl _, ?_, ?_, by simp [Value.ownBlock]⟩
  · have h := World.rowIs_alloc W ((madeCells #[.bool false] n).setIfInBounds s (.bool true)) 4 (fun i => .bool (upd (fun _ => false) s true i)) (fun i hi => by
      rw [Array.getElem?_setIfInBounds]
      simp [size_madeCells] at hi
      by_cases e : s = i
      · subst e; simp [upd, size_madeCells, hi]
      · rw [if_neg e]; simp [upd, madeCells, hi, Nat.mod_one, show i ≠ s from fun e2 => e e2.symm])
    rw [Array.size_setIfInBounds, size_madeCells] at h
    exact h.alloc _
  · have := World.ownsRow_made (base := W.heap.size) (e := 3) (size := 1) (W.alloc (.cells ((madeCells #[.bool false] n).setIfInBounds s (.bool true)) 4)) (madeCells #[.int .i64 0] n) n (by simp) (by unfold maxLen; omega) (by simp [size_madeCells])
    simpa [ints] using this

/-- A row of answers. -/
def ReachP (W : World) (G : Gr) (s : Nat) (e : Ending) (w' : World) : Prop :=
  ∃ (sb : Nat) (seen : Nat → Bool), e = .returned (.slice (some ⟨sb, 0, none⟩) G.n G.n) ∧ Ext W w' ∧ W.heap.size ≤ sb ∧ w'.rowIs sb 4 G.n (fun i => .bool (seen i)) ∧ ∀ w, seen w = true ↔ G.Reach s w

set_option maxRecDepth 100000 in
set_option maxHeartbeats 1000000 in
theorem reach27 {G : Gr} {W : World} {ea : Option Addr} {eb : Nat} {RA : Nat → Option Addr} {RB : Nat → Nat} (hE : EdG W ea eb G RA RB) (s : Nat) (hs : s < G.n) : Calls Try.prog 27 #[.slice ea G.n G.n, .int .i64 (s : Int)] W (ReachP W G s) := by
  obtain rfl := hE.ea (by omega)
  have HE := hide hE
  have hsm := hE.small
  clear hE
  have hmk := run_make_row' (P := Try.prog) 30 4 (.bool false) 1 Try.underlying30 info4' rfl .i64 .i64 G.n (by omega) (by omega)
  have hmr := make_room' G.n hsm
  have hm0 : (W.alloc (.cells (madeCells #[.bool false] G.n) 4)).cell? ⟨W.heap.size, s, none⟩ = some (.bool false) := (World.rowIs_made W (.bool false) G.n 4).cell hs
  have hf0 : (W.alloc (.cells (madeCells #[.bool false] G.n) 4)).frozen? ⟨W.heap.size, s, none⟩ = false := (World.rowIs_made W (.bool false) G.n 4).frozen s
  go_enter Try.func27, Try.ntmps27
  go_wp2_with (at_builtin; refine stop ?_)
  apply Stop.go
  have HQ0 := hide ((rq_start W G.n s hsm).later ((Ext.refl _).alloc (.cells #[.int .i64 (s : Int)] 3)))
  obtain ⟨i0, hi, hz0, hz1, hz2⟩ := info_parts info3
  refine wpList_append_own_at _ rfl (.tmp 21) (.tmp 23) 25 rfl W.heap.size 3 i0 (.int .i64 0) 1 8 Try.underlying25 hi hz0 hz1 hz2 rfl (by decide) (.slice (some ⟨W.heap.size + 1, 0, none⟩) 0 G.n) 0 [] rfl HQ0.out.own ⟨W.heap.size + 1 + 1, 0, none⟩ 1 1 [.int .i64 (s : Int)] rfl rfl ?c1 ?c2 ?c3 ?c4 ?c5 ?_
  case c1 => exact one_new _ _ _ (by simp)
  case c2 => intro u hu; simp at hu; rcases hu with rfl; rfl
  case c3 => unfold maxLen; omega
  case c4 => omega
  case c5 => exact HQ0.out.ext.size
  intro QV1 w1 hown1 hgrow1 hnil1 hat1
  have HQ1 := hide (HQ0.out.push (x := s) hgrow1 hown1 hat1)
  have HM1 := hide (RM.init (G := G) hs)
  clear hown1 hgrow1 hnil1 hat1 hi hz0 hz1 hz2 hm0 hf0 HQ0
  obtain ⟨qa1, qc1, hqs⟩ := own_len HQ1.out.own
  subst hqs
  go_wp2
  go_loopg [7] G.n (fun g f wr => ∃ (QV : Value) (q : List Nat) (seen : Nat → Bool), q.length + cntF seen G.n ≤ g ∧ QV = f ∧ Hid (RQ W wr G.n W.heap.size seen QV q) ∧ Hid (RM G s none seen q))
  case atStart => exact ⟨_, _, _, HM1.out.cnt, rfl, HQ1, HM1⟩
  case round =>
    obtain ⟨QV, q, seen, hg, rfl, HQ, HM⟩ := hrel
    clear HQ1 HM1
    obtain ⟨qa, qc, hqs⟩ := own_len HQ.out.own
    subst hqs
    have hcnt := HM.out.cnt
    rcases (show q = [] ∨ ∃ r v, q = r ++ [v] from by rcases List.eq_nil_or_concat q with h | ⟨r, v, h⟩; exact .inl h; exact .inr ⟨r, v, by simpa using h⟩) with rfl | ⟨r, v, rfl⟩
    · go_wp2
      go_ret
      exact ⟨W.heap.size, seen, rfl, HQ.out.ext, Nat.le_refl _, HQ.out.row, fun w => HM.out.last w⟩
    · obtain ⟨hvn, hM0⟩ := HM.out.pop
      have hql : (r ++ [v]).length = r.length + 1 := by simp
      obtain ⟨gq, rfl⟩ := own_some' HQ.out.own (by rw [hql]; omega)
      rw [hql] at hcnt hg
      have hQ := HQ.out
      rw [hql] at hQ
      have hcq : wr.cell? ⟨gq, r.length, none⟩ = some (.int .i64 (v : Int)) := by
        have h1 := HQ.out.own.cells (g := gq) rfl r.length (.int .i64 (v : Int)) (by simp [ints])
        rw [Addr.add_lit, Nat.zero_add] at h1
        exact h1
      obtain ⟨hcap1, hcap2⟩ := own_cap hQ.own
      have HQ2 := hide hQ.pop
      have HM2 := hide hM0
      rw [hql]
      clear hQ hM0 hql HQ HM
      have geb := (HE.out.ext HQ2.out.ext).outer v hvn
      have HRA := hide (HE.out.ra v hvn)
      generalize RA v = ra at geb HRA
      have hlen := HE.out.len v hvn
      have hg2 := hide (show r.length + cntF seen G.n ≤ gk - 1 by omega)
      have hgk := hide (show 1 ≤ gk by omega)
      obtain ⟨go, hgo⟩ : ∃ go, go = gk := ⟨gk, rfl⟩
      rw [← hgo] at hg2 hgk
      have HGO := hide hgo
      clear hgo hg
      go_wp2
      go_loopg [7, 10] (G.adj v).length (fun g f i wr => ∃ (j : Nat) (QV : Value) (q : List Nat) (seen : Nat → Bool), j + g = (G.adj v).length ∧ QV = f ∧ i = .int .i64 (j : Int) ∧ Hid (q.length + cntF seen G.n ≤ go - 1) ∧ Hid (RQ W wr G.n W.heap.size seen QV q) ∧ Hid (RM G s (some (v, (G.adj v).take j)) seen q))
      case atStart => exact ⟨0, _, r, seen, by omega, rfl, rfl, hg2, HQ2, HM2⟩
      case round =>
        obtain ⟨j, QV3, q3, seen3, hj, rfl, rfl, HG3, HQ3, HM3⟩ := hrel
        clear hcq geb HQ2 HM2 hg2
        have hcnt3 := HM3.out.cnt
        by_cases hjl : j < (G.adj v).length
        · obtain rfl := HRA.out (by omega)
          obtain ⟨x, hx⟩ : ∃ x, (G.adj v)[j]? = some x := ⟨_, List.getElem?_eq_getElem hjl⟩
          have hxa := List.mem_of_getElem? hx
          have hxn : x < G.n := HE.out.ok v hvn x hxa
          have hcx := (HE.out.ext HQ3.out.ext).inner v hvn j x hx
          have hcs := HQ3.out.row.cell hxn
          have hfs := HQ3.out.row.frozen x
          have HTS := hide (take_snoc hx)
          clear hx
          cases hsx : seen3 x with
          | true =>
            rw [hsx] at hcs
            have HM4 := hide (HTS.out ▸ HM3.out.old hsx)
            clear hsx
            go_wp2
            go_roundg ((G.adj v).length - (j + 1))
            case measure => omega
            case rel => exact ⟨j + 1, QV3, q3, seen3, by omega, rfl, by go_num, HG3, HQ3, HM4⟩
          | false =>
            rw [hsx] at hcs
            have HM4 := hide (HTS.out ▸ HM3.out.push hxa hxn hsx)
            have HCU := hide (cntF_upd hxn hsx)
            clear hsx
            go_wp2_with (at_builtin; refine stop ?_)
            apply Stop.go
            have HQ4 := hide ((HQ3.out.set x true).later ((Ext.refl _).alloc (.cells #[.int .i64 (x : Int)] 3)))
            obtain ⟨i0, hi, hz0, hz1, hz2⟩ := info_parts info3
            refine wpList_append_own_at _ rfl (.tmp 61) (.tmp 63) 25 rfl W.heap.size 3 i0 (.int .i64 0) 1 8 Try.underlying25 hi hz0 hz1 hz2 rfl (by decide) QV3 q3.length (ints q3) rfl HQ4.out.own ⟨wr.heap.size, 0, none⟩ 1 1 [.int .i64 (x : Int)] rfl rfl ?c1 ?c2 ?c3 ?c4 ?c5 ?_
            case c1 => exact one_new _ _ _ (by simp [World.setCell])
            case c2 => intro u hu; simp at hu; rcases hu with rfl; rfl
            case c3 => unfold maxLen; omega
            case c4 => omega
            case c5 => exact HQ4.out.ext.size
            intro QV6 w6 hown6 hgrow6 hnil6 hat6
            have HQ6 := hide (HQ4.out.push (x := x) hgrow6 hown6 hat6)
            clear hown6 hgrow6 hnil6 hat6 hi hz0 hz1 hz2
            go_wp2
            go_roundg ((G.adj v).length - (j + 1))
            case measure => omega
            case rel =>
              refine ⟨j + 1, QV6, q3 ++ [x], _, by omega, rfl, by go_num, ?_, HQ6, HM4⟩
              have h1 := HG3.out
              have h2 := HCU.out
              show (q3 ++ [x]).length + cntF (upd seen3 x true) G.n ≤ go - 1
              simp only [List.length_append, List.length_cons, List.length_nil]
              omega
        · have hM5 := HM3.out
          rw [List.take_of_length_le (by omega)] at hM5
          have HM5 := hide hM5.through
          clear hM5
          go_wp2
          go_roundg (go - 1)
          case measure => have := HGO.out; have := hgk.out; omega
          case rel => exact ⟨QV3, q3, seen3, HG3.out, rfl, HQ3, HM5⟩

/-- The matrix up to k. -/
structure MR (G : Gr) (W w : World) (k : Nat) (SB : Nat → Nat) (seen : Nat → Nat → Bool) : Prop where
  ext : Ext W w
  lt : W.heap.size < w.heap.size
  outer : w.rowIs W.heap.size 30 G.n (fun i => if i < k then .slice (some ⟨SB i, 0, none⟩) G.n G.n else .slice none 0 0)
  ge : ∀ i, i < k → W.heap.size < SB i
  inner : ∀ i, i < k → ∀ j, j < G.n → w.cell? ⟨SB i, j, none⟩ = some (.bool (seen i j))
  ok : ∀ i, i < k → ∀ j, seen i j = true ↔ G.Reach i j

theorem MR.start (G : Gr) (W : World) : MR G W (W.alloc (.cells (madeCells #[.slice none 0 0] G.n) 30)) 0 (fun _ => 0) (fun _ _ => false) :=
  ⟨(Ext.refl W).alloc _, by simp, (World.rowIs_made W _ G.n 30).congr (fun i _ => by simp), fun i hi => absurd hi (by omega), fun i hi => absurd hi (by omega), fun i hi => absurd hi (by omega)⟩

theorem MR.step {G : Gr} {W w w1 : World} {k sb : Nat} {SB : Nat → Nat} {seen : Nat → Nat → Bool} {sn : Nat → Bool} (h : MR G W w k SB seen) (hx : Ext w w1) (hge : w.heap.size ≤ sb) (hr : w1.rowIs sb 4 G.n (fun i => .bool (sn i))) (hs : ∀ j, sn j = true ↔ G.Reach k j) :
    MR G W (w1.setCell ⟨W.heap.size, k, none⟩ (.slice (some ⟨sb, 0, none⟩) G.n G.n)) (k + 1) (fun i => if i = k then sb else SB i) (fun i => if i = k then sn else seen i) := by
  have hlt := h.lt
  refine ⟨Below.setCell (h.ext.trans hx) (Nat.le_refl _) _, ?_, ?_, ?_, ?_, ?_⟩
  · have := hx.size
    simp [World.setCell]
    omega
  · have h1 := h.outer.of_block (w' := w1) (hx.block _ hlt)
    refine (h1.set k _).congr fun i hi => ?_
    by_cases e : i = k
    · subst e; simp
    · by_cases e2 : i < k
      · simp [e, e2, show i < k + 1 by omega]
      · simp [e, e2, show ¬ i < k + 1 by omega]
  · intro i hi
    by_cases e : i = k
    · simp only [e, if_true]; omega
    · simp only [e, if_false]; exact h.ge i (by omega)
  · intro i hi j hj
    by_cases e : i = k
    · simp only [e, if_true]
      rw [World.cell?_setCell_other _ _ _ _ (by intro h; have := congrArg Addr.block h; simp at this; omega)]
      exact hr.cell hj
    · simp only [e, if_false]
      have := h.ge i (by omega)
      rw [World.cell?_setCell_other _ _ _ _ (by intro h; have := congrArg Addr.block h; simp at this; omega)]
      exact hx.cell (h.inner i (by omega) j hj)
  · intro i hi j
    by_cases e : i = k
    · subst e; simp only [if_true]; exact hs j
    · simp only [e, if_false]; exact h.ok i (by omega) j

def MatP (W : World) (G : Gr) (e : Ending) (w' : World) : Prop := ∃ SB seen, e = .returned (.slice (some ⟨W.heap.size, 0, none⟩) G.n G.n) ∧ MR G W w' G.n SB seen

set_option maxRecDepth 100000 in
set_option maxHeartbeats 1000000 in
theorem matrix17 {G : Gr} {W : World} {ea : Option Addr} {eb : Nat} {RA : Nat → Option Addr} {RB : Nat → Nat} (hE : EdG W ea eb G RA RB) : Calls Try.prog 17 #[.slice ea G.n G.n] W (MatP W G) := by
  have HE := hide hE
  have hsm := hE.small
  clear hE
  have hmk := run_make_row' (P := Try.prog) 28 30 (.slice none 0 0) 24 Try.underlying28 info30' rfl .i64 .i64 G.n (by omega) (by omega)
  go_enter Try.func17, Try.ntmps17
  go_wp2
  have HS := hide (MR.start G W)
  generalize W.alloc (.cells (madeCells #[.slice none 0 0] G.n) 30) = w0 at HS ⊢
  go_loopg [5] G.n (fun g i wr => ∃ (k : Nat) (SB : Nat → Nat) (seen : Nat → Nat → Bool), k + g = G.n ∧ i = .int .i64 (k : Int) ∧ Hid (MR G W wr k SB seen))
  case atStart => exact ⟨0, _, _, by omega, rfl, HS⟩
  case round =>
    obtain ⟨k, SB, seen, hk, rfl, HK⟩ := hrel
    clear HS
    by_cases hlt : k < G.n
    · go_wp2_with fail
      refine (reach27 (HE.out.ext HK.out.ext) k hlt).mono ?_
      rintro e w1 ⟨sb, sn, rfl, hx1, hge, hrow, hok⟩
      have hco : w1.cell? ⟨W.heap.size, k, none⟩ = some (.slice none 0 0) := hx1.cell (by have := HK.out.outer.cell hlt; simpa using this)
      have hfo : w1.frozen? ⟨W.heap.size, k, none⟩ = false := (Below.frozen hx1 (by exact HK.out.lt)).trans (HK.out.outer.frozen k)
      have HK2 := hide (HK.out.step hx1 hge hrow hok)
      clear hx1 hge hrow hok
      go_wp2
      go_roundg (G.n - (k + 1))
      case measure => omega
      case rel => exact ⟨k + 1, _, _, by omega, by go_num, HK2⟩
    · obtain rfl : k = G.n := by omega
      go_wp2
      go_ret
      exact ⟨SB, seen, rfl, HK.out⟩
end Go.Proofs.Qxb6001235a
