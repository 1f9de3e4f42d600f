import Derived.Test.Qxb6001235aMem
/-! Seat b6001235a: the closure 'visit' of components walked. -/
namespace Go.Proofs.Qxb6001235a
set_option linter.unusedVariables false
open Go.RowKit Go.Maps



theorem LI.reach {G : Gr} {s0 s : TS} {gr pre : List Nat} {v w : Nat} (h : LI G s0 gr v pre s) (hw : w ∈ G.adj v) : ∀ g, g ∈ v :: gr → G.Reach g w := by
  intro g hg
  have hgv : G.Reach g v := h.inv.greach g hg v h.mem (by
    rcases List.mem_cons.1 hg with e' | hg'
    · rw [e']; exact Int.le_refl _
    · have := (h.below (h.aboveMem (h.old.gstk g hg'))).1 (h.old.gstk g hg'); omega)
  exact Reach.trans hgv (Reach.edge hw)

/-- The state after i pops of the last loop. -/
def popN (s : TS) (i : Nat) : TS := { s with stk := s.stk.drop i, ons := fun u => if u ∈ s.stk.take i then false else s.ons u, comp := fun u => if u ∈ s.stk.take i then (s.size.length : Int) else s.comp u, size := s.size ++ [i] }
theorem popN_zero (s : TS) : popN s 0 = { s with size := s.size ++ [0] } := by simp [popN]
theorem popN_step {s : TS} {i x : Nat} (h : s.stk[i]? = some x) :
    { popN s i with stk := s.stk.drop (i + 1), ons := upd (popN s i).ons x false, comp := upd (popN s i).comp x (s.size.length : Int), size := s.size ++ [i + 1] } = popN s (i + 1) := by
  unfold popN
  simp only [TS.mk.injEq, true_and]
  rw [← take_snoc h]
  refine ⟨?_, ?_, trivial⟩
  · funext u
    unfold upd
    by_cases e : u = x
    · subst e; simp
    · simp [e]
  · funext u
    unfold upd
    by_cases e : u = x
    · subst e; simp
    · simp [e]
theorem popN_last {s : TS} {v : Nat} {sg r : List Nat} (h : s.stk = sg ++ v :: r) (hv : v ∉ sg) : popN s (sg.length + 1) = popAll v s := by
  obtain ⟨h1, h2⟩ := segOf_eq (r := r) hv
  have e1 : s.stk.take (sg.length + 1) = sg ++ [v] := by rw [h, List.take_append]; simp [List.take_of_length_le]
  have e2 : s.stk.drop (sg.length + 1) = r := by rw [h, List.drop_append]; simp [List.drop_of_length_le]
  unfold popN popAll
  rw [e1, e2, h, h1, h2]
  simp
/-- Behind one round of the last loop. -/
theorem TM.popStep {I : Nat → Nat} {n : Nat} {ea : Option Addr} {W w : World} {s : TS} {i x gs cs gz cz : Nat} {r : List Nat} (h : TM I n ea W w (popN s i) (.slice (some ⟨gs, 0, none⟩) (r.length + 1) cs) (.slice (some ⟨gz, 0, none⟩) (s.size.length + 1) cz))
    (hx : s.stk[i]? = some x) (hr : s.stk.drop (i + 1) = r) :
    TM I n ea W ((((w.setCell ⟨I 3, 0, none⟩ (.slice (some ⟨gs, 0, none⟩) r.length cs)).setCell ⟨I 11, x, none⟩ (.bool false)).setCell ⟨I 12, x, none⟩ (.int .i64 (s.size.length : Int))).setCell ⟨gz, s.size.length, none⟩ (.int .i64 ((i : Int) + 1)))
      (popN s (i + 1)) (.slice (some ⟨gs, 0, none⟩) r.length cs) (.slice (some ⟨gz, 0, none⟩) (s.size.length + 1) cz) := by
  have hdr : (popN s i).stk = x :: r := by rw [← hr]; exact drop_step hx
  have h5 := (((h.pop hdr).setOns x false).setComp x (s.size.length : Int)).zset (x := i) (y := i + 1) (l := s.size) rfl
  have e := popN_step hx
  rw [hr] at e
  rw [← e]
  rw [show ((i + 1 : Nat) : Int) = (i : Int) + 1 from by omega] at h5
  exact h5
def VisP (I : Nat → Nat) (n : Nat) (ea : Option Addr) (W : World) (s' : TS) (e : Ending) (w' : World) : Prop := e = .returned (.tuple #[]) ∧ ∃ SV ZV, TM I n ea W w' s' SV ZV

set_option maxRecDepth 100000 in
set_option maxHeartbeats 1000000 in
theorem visit30 {G : Gr} {W : World} {ea : Option Addr} {eb : Nat} {RA : Nat → Option Addr} {RB : Nat → Nat} (hE : EdG W ea eb G RA RB) (I : Nat → Nat) : ∀ (fuel v : Nat) (s : TS) (gr : List Nat) (w : World) (SV ZV : Value),
    Inv G s gr → v < G.n → s.order v = -1 → (∀ g, g ∈ gr → G.Reach g v) → G.n ≤ fuel + s.next → TM I G.n ea W w s SV ZV →
    Calls Try.prog 30 #[.int .i64 (v : Int), .pointer (some ⟨I 0, 0, none⟩), .pointer (some ⟨I 1, 0, none⟩), .pointer (some ⟨I 2, 0, none⟩), .pointer (some ⟨I 3, 0, none⟩), .pointer (some ⟨I 4, 0, none⟩), .pointer (some ⟨I 5, 0, none⟩), .pointer (some ⟨I 6, 0, none⟩), .pointer (some ⟨I 7, 0, none⟩), .pointer (some ⟨I 8, 0, none⟩)] w (VisP I G.n ea W (visit G fuel v s)) := by
  intro fuel
  induction fuel with
  | zero =>
    intro v s gr w SV ZV h hv hw _ hf
    have := h.next_lt hv hw
    omega
  | succ fuel ih =>
    intro v s gr w SV ZV hinv hv hw hr hf hT
    have IH := hide ih
    obtain rfl := hE.ea (by omega)
    have HE := hide hE
    have HI := hide (And.intro hinv (And.intro hw (And.intro hr hf)))
    have HT := hide hT
    have hnx := hinv.next_lt hv hw
    have hsm := hE.small
    clear ih hinv hw hr hf hT hE
    have c0 : w.cell? ⟨I 0, 0, none⟩ = some (.int .i64 (s.next : Int)) := Blk.cell (HT.out.po 0 (by decide)) rfl
    have c1 : w.cell? ⟨I 1, 0, none⟩ = some (.slice (some ⟨I 9, 0, none⟩) G.n G.n) := Blk.cell (HT.out.po 1 (by decide)) rfl
    have c2 : w.cell? ⟨I 2, 0, none⟩ = some (.slice (some ⟨I 10, 0, none⟩) G.n G.n) := Blk.cell (HT.out.po 2 (by decide)) rfl
    have c9 : w.cell? ⟨I 9, v, none⟩ = some (.int .i64 (s.order v)) := World.rowIs.cell (HT.out.po 9 (by decide)) hv
    have f9 : w.frozen? ⟨I 9, v, none⟩ = false := World.rowIs.frozen (HT.out.po 9 (by decide)) v
    have c10 : w.cell? ⟨I 10, v, none⟩ = some (.int .i64 (s.low v)) := World.rowIs.cell (HT.out.po 10 (by decide)) hv
    have f10 : w.frozen? ⟨I 10, v, none⟩ = false := World.rowIs.frozen (HT.out.po 10 (by decide)) v
    have n1 : I 9 ≠ I 10 := HT.out.ne (by decide)
    have n2 : I 10 ≠ I 9 := HT.out.ne (by decide)
    have n3 : I 2 ≠ I 9 := HT.out.ne (by decide)
    have n4 : I 0 ≠ I 9 := HT.out.ne (by decide)
    have n5 : I 1 ≠ I 9 := HT.out.ne (by decide)
    have n6 : I 2 ≠ I 10 := HT.out.ne (by decide)
    have n7 : I 0 ≠ I 10 := HT.out.ne (by decide)
    have n8 : I 1 ≠ I 10 := HT.out.ne (by decide)
    go_enter Try.func30, Try.ntmps30
    go_wp2
    go_region
    have HT1 := hide (((HT.out.setOrder v (s.next : Int)).setLow v (s.next : Int)).later ((Ext.refl _).drew))
    clear c0 c1 c2 c9 f9 c10 f10 n1 n2 n3 n4 n5 n6 n7 n8
    generalize ((w.setCell ⟨I 9, v, none⟩ (.int .i64 (s.next : Int))).setCell ⟨I 10, v, none⟩ (.int .i64 (s.next : Int))).drew = w1 at HT1 ⊢
    have c0 : w1.cell? ⟨I 0, 0, none⟩ = some (.int .i64 (s.next : Int)) := Blk.cell (HT1.out.po 0 (by decide)) rfl
    have f0 : w1.frozen? ⟨I 0, 0, none⟩ = false := Blk.frozen (HT1.out.po 0 (by decide)) 0
    have c3 : w1.cell? ⟨I 3, 0, none⟩ = some SV := Blk.cell (HT1.out.po 3 (by decide)) rfl
    have n1 : I 3 ≠ I 0 := HT.out.ne (by decide)
    go_wp2_with (at_builtin; refine stop ?_)
    apply Stop.go
    have e1 : (s.next : Int) + 1 = ((s.next + 1 : Nat) : Int) := by omega
    rw [e1]
    clear e1
    have HT2 := hide ((HT1.out.setNext (s.next + 1)).later ((Ext.refl _).alloc (.cells #[.int .i64 (v : Int)] 3)))
    have hsl : s.stk.length ≤ s.next := by have := HI.out.1.cap; omega
    obtain ⟨i0, hi, hz0, hz1, hz2⟩ := info_parts info3
    refine wpList_append_own_at _ rfl (.tmp 25) (.tmp 27) 25 rfl W.heap.size 3 i0 (.int .i64 0) 1 8 Try.underlying25 hi hz0 hz1 hz2 rfl (by decide) SV s.stk.length (ints s.stk.reverse) rfl HT2.out.so ⟨w1.heap.size, 0, none⟩ 1 1 [.int .i64 (v : Int)] rfl rfl ?c1 ?c2 ?c3 ?c4 ?c5 ?_
    case c1 => exact one_new _ _ _ (by simp [World.setCell])
    case c2 => intro u hu; simp at hu; rcases hu with rfl; rfl
    case c3 => unfold maxLen; omega
    case c4 => omega
    case c5 => exact HT2.out.ext.size
    intro SV1 w2 hown2 hgrow2 hnil2 hat2
    obtain ⟨gb, cp, hv1⟩ := own_shape hown2
    subst hv1
    have HT3 := hide (HT2.out.push (v := v) hgrow2 hown2 hat2)
    have hk : ∀ k, k < 13 → PO I G.n _ _ SV ZV w2 k := fun k hk => (HT2.out.po k hk).of_block (hgrow2.block _ (PO.lt hk (HT2.out.po k hk)) (fun e => HT2.out.sne k hk e.symm))
    have g3 : w2.cell? ⟨I 3, 0, none⟩ = some SV := Blk.cell (hk 3 (by decide)) rfl
    have h3 : w2.frozen? ⟨I 3, 0, none⟩ = false := Blk.frozen (hk 3 (by decide)) 0
    have g4 : w2.cell? ⟨I 4, 0, none⟩ = some (.slice (some ⟨I 11, 0, none⟩) G.n G.n) := Blk.cell (hk 4 (by decide)) rfl
    have g11 : w2.cell? ⟨I 11, v, none⟩ = some (.bool (s.ons v)) := World.rowIs.cell (hk 11 (by decide)) hv
    have h11 : w2.frozen? ⟨I 11, v, none⟩ = false := World.rowIs.frozen (hk 11 (by decide)) v
    have g5 : w2.cell? ⟨I 5, 0, none⟩ = some (.slice (some ⟨eb, 0, none⟩) G.n G.n) := Blk.cell (hk 5 (by decide)) rfl
    have HE2 := hide (HE.out.ext (show Ext W w2 from Below.grown HT2.out.ext hgrow2 HT2.out.ext.size HT2.out.row_ge))
    have geb := HE2.out.outer v hv
    have beb : eb < W.heap.size := World.block_lt_of_cell? W _ (HE.out.outer v hv)
    have n2 : I 4 ≠ I 3 := HT.out.ne (by decide)
    have n3 : I 11 ≠ I 3 := HT.out.ne (by decide)
    have n4 : I 5 ≠ I 3 := HT.out.ne (by decide)
    have n5 : I 5 ≠ I 11 := HT.out.ne (by decide)
    have n6 : eb ≠ I 3 := by have := HT.out.new 3 (by decide); omega
    have n7 : eb ≠ I 11 := by have := HT.out.new 11 (by decide); omega
    have HRA := hide (HE.out.ra v hv)
    generalize RA v = ra at geb HRA
    clear c0 f0 c3 hown2 hgrow2 hnil2 hat2 hk n1 HE2 hz0 hz1 hz2 hi
    go_wp2
    have HT4 := hide (show TM I G.n _ W _ (enter v s) _ _ from HT3.out.setOns v true)
    generalize ((w2.setCell ⟨I 3, 0, none⟩ (.slice (some ⟨gb, 0, none⟩) (s.stk.length + 1) cp)).setCell ⟨I 11, v, none⟩ (.bool true)) = w3 at HT4 ⊢
    clear g3 h3 g4 g11 h11 g5 geb n2 n3 n4 n5 n6 n7 HT3 HT2 HT1 HT
    have hlen := HE.out.len v hv
    have HV := hide (show finish v ((G.adj v).foldl (stepW (visit G fuel) v) (enter v s)) = visit G (fuel + 1) v s from rfl)
    have HL0 := hide (enter_LI HI.out.1 hv HI.out.2.1 HI.out.2.2.1)
    go_loopg [37] (G.adj v).length (fun g i wr => ∃ (k : Nat) (sk : TS) (SV ZV : Value), k + g = (G.adj v).length ∧ i = .int .i64 (k : Int) ∧ Hid (finish v (((G.adj v).drop k).foldl (stepW (visit G fuel) v) sk) = visit G (fuel + 1) v s) ∧ Hid (LI G s gr v ((G.adj v).take k) sk) ∧ Hid (TM I G.n (some ⟨eb, 0, none⟩) W wr sk SV ZV))
    case atStart => exact ⟨0, _, _, _, by omega, rfl, HV.out, HL0.out, HT4.out⟩
    case round =>
      obtain ⟨k, sk, SV2, ZV2, hk, rfl, HF, HL, HK⟩ := hrel
      clear HT4 HV HL0
      by_cases hlt : k < (G.adj v).length
      · obtain rfl := HRA.out (by omega)
        obtain ⟨x, hx⟩ : ∃ x, (G.adj v)[k]? = some x := ⟨_, List.getElem?_eq_getElem hlt⟩
        have hxa : x ∈ G.adj v := List.mem_of_getElem? hx
        have hxn : x < G.n := HE.out.ok v hv x hxa
        have hcx := (HE.out.ext HK.out.ext).inner v hv k x hx
        have HX := hide hx
        have c1 : wr.cell? ⟨I 1, 0, none⟩ = some (.slice (some ⟨I 9, 0, none⟩) G.n G.n) := Blk.cell (HK.out.po 1 (by decide)) rfl
        have c9 : wr.cell? ⟨I 9, x, none⟩ = some (.int .i64 (sk.order x)) := World.rowIs.cell (HK.out.po 9 (by decide)) hxn
        clear hx
        have hstep : Hid (LI G s gr v ((G.adj v).take (k + 1)) (stepW (visit G fuel) v sk x)) := by
          have := loop_LI HE.out.ok (fun w s gr h1 h2 h3 h4 h5 => visit_VP HE.out.ok fuel w s gr h1 h2 h3 h4 h5) [x] _ sk HL.out (fun w hw => by simp at hw; rw [hw]; exact hxa) (by have := HI.out.2.2.2; omega)
          rw [take_snoc HX.out] at this
          exact this
        have hfin : Hid (finish v (((G.adj v).drop (k + 1)).foldl (stepW (visit G fuel) v) (stepW (visit G fuel) v sk x)) = visit G (fuel + 1) v s) := by
          have := HF.out
          rw [drop_step HX.out, List.foldl_cons] at this
          exact this
        have hnxk := hide (show G.n ≤ fuel + sk.next by have := HL.out.next; have := HI.out.2.2.2; omega)
        clear HF hcx
        have hcx := (HE.out.ext HK.out.ext).inner v hv k x HX.out
        by_cases ho : sk.order x = -1
        · have hb : (sk.order x == -1) = true := by simp [ho]
          have c6 : wr.cell? ⟨I 6, 0, none⟩ = some (clos I) := Blk.cell (HK.out.po 6 (by decide)) rfl
          unfold clos ptr at c6
          have HO := hide ho
          clear ho
          go_wp2_with fail
          refine (IH.out x sk (v :: gr) wr SV2 ZV2 HL.out.inv hxn HO.out (HL.out.reach hxa) hnxk.out HK.out).mono ?_
          rintro e w4 ⟨rfl, SV3, ZV3, hT3⟩
          have HT3 := hide hT3
          clear hT3 c1 c9 hb c6 hcx
          rw [show stepW (visit G fuel) v sk x = { visit G fuel x sk with low := upd (visit G fuel x sk).low v (min ((visit G fuel x sk).low v) ((visit G fuel x sk).low x)) } from by unfold stepW; rw [if_pos HO.out]] at hstep hfin
          clear HO
          generalize visit G fuel x sk = s3 at hstep hfin HT3
          have c2 : w4.cell? ⟨I 2, 0, none⟩ = some (.slice (some ⟨I 10, 0, none⟩) G.n G.n) := Blk.cell (HT3.out.po 2 (by decide)) rfl
          have c10 : w4.cell? ⟨I 10, v, none⟩ = some (.int .i64 (s3.low v)) := World.rowIs.cell (HT3.out.po 10 (by decide)) hv
          have f10 : w4.frozen? ⟨I 10, v, none⟩ = false := World.rowIs.frozen (HT3.out.po 10 (by decide)) v
          have c10x : w4.cell? ⟨I 10, x, none⟩ = some (.int .i64 (s3.low x)) := World.rowIs.cell (HT3.out.po 10 (by decide)) hxn
          by_cases hmin : s3.low v ≤ s3.low x
          · rw [Int.min_eq_left hmin] at hstep hfin
            have HT5 := hide ((HT3.out.setLow v (s3.low v)).later ((Ext.refl _).drew))
            go_wp2
            go_region
            go_wp2
            go_roundg ((G.adj v).length - (k + 1))
            case measure => omega
            case rel => exact ⟨k + 1, _, _, _, by omega, by go_num, hfin, hstep, HT5⟩
          · rw [Int.min_eq_right (by omega)] at hstep hfin
            have HT5 := hide ((HT3.out.setLow v (s3.low x)).later ((Ext.refl _).drew))
            have hmin' : s3.low x < s3.low v := by omega
            clear hmin
            go_wp2
            go_region
            go_wp2
            go_roundg ((G.adj v).length - (k + 1))
            case measure => omega
            case rel => exact ⟨k + 1, _, _, _, by omega, by go_num, hfin, hstep, HT5⟩
        · have hb : (sk.order x == -1) = false := by simp [ho]
          have c4 : wr.cell? ⟨I 4, 0, none⟩ = some (.slice (some ⟨I 11, 0, none⟩) G.n G.n) := Blk.cell (HK.out.po 4 (by decide)) rfl
          have c11 : wr.cell? ⟨I 11, x, none⟩ = some (.bool (sk.ons x)) := World.rowIs.cell (HK.out.po 11 (by decide)) hxn
          have HO := hide ho
          clear ho
          cases hon : sk.ons x with
          | true =>
            rw [hon] at c11
            rw [show stepW (visit G fuel) v sk x = { sk with low := upd sk.low v (min (sk.low v) (sk.order x)) } from by unfold stepW; rw [if_neg HO.out, if_pos hon]] at hstep hfin
            clear hon
            have c2 : wr.cell? ⟨I 2, 0, none⟩ = some (.slice (some ⟨I 10, 0, none⟩) G.n G.n) := Blk.cell (HK.out.po 2 (by decide)) rfl
            have c10 : wr.cell? ⟨I 10, v, none⟩ = some (.int .i64 (sk.low v)) := World.rowIs.cell (HK.out.po 10 (by decide)) hv
            have f10 : wr.frozen? ⟨I 10, v, none⟩ = false := World.rowIs.frozen (HK.out.po 10 (by decide)) v
            by_cases hmin : sk.low v ≤ sk.order x
            · rw [Int.min_eq_left hmin] at hstep hfin
              have HT5 := hide ((HK.out.setLow v (sk.low v)).later ((Ext.refl _).drew))
              go_wp2
              go_region
              go_wp2
              go_roundg ((G.adj v).length - (k + 1))
              case measure => omega
              case rel => exact ⟨k + 1, _, _, _, by omega, by go_num, hfin, hstep, HT5⟩
            · rw [Int.min_eq_right (by omega)] at hstep hfin
              have HT5 := hide ((HK.out.setLow v (sk.order x)).later ((Ext.refl _).drew))
              have hmin' : sk.order x < sk.low v := by omega
              clear hmin
              go_wp2
              go_region
              go_wp2
              go_roundg ((G.adj v).length - (k + 1))
              case measure => omega
              case rel => exact ⟨k + 1, _, _, _, by omega, by go_num, hfin, hstep, HT5⟩
          | false =>
            rw [hon] at c11
            rw [show stepW (visit G fuel) v sk x = sk from by unfold stepW; rw [if_neg HO.out, if_neg (by rw [hon]; simp)]] at hstep hfin
            clear hon
            go_wp2
            go_roundg ((G.adj v).length - (k + 1))
            case measure => omega
            case rel => exact ⟨k + 1, _, _, _, by omega, by go_num, hfin, hstep, HK⟩
      · have ek : k = (G.adj v).length := by omega
        have HF' := HF.out
        have HL' := HL.out
        rw [ek, List.drop_length, List.foldl_nil] at HF'
        rw [ek, List.take_length] at HL'
        have HF2 := hide HF'
        have HL2 := hide HL'
        clear HF' HL' HF HL
        have c1 : wr.cell? ⟨I 1, 0, none⟩ = some (.slice (some ⟨I 9, 0, none⟩) G.n G.n) := Blk.cell (HK.out.po 1 (by decide)) rfl
        have c9 : wr.cell? ⟨I 9, v, none⟩ = some (.int .i64 (sk.order v)) := World.rowIs.cell (HK.out.po 9 (by decide)) hv
        have c2 : wr.cell? ⟨I 2, 0, none⟩ = some (.slice (some ⟨I 10, 0, none⟩) G.n G.n) := Blk.cell (HK.out.po 2 (by decide)) rfl
        have c10 : wr.cell? ⟨I 10, v, none⟩ = some (.int .i64 (sk.low v)) := World.rowIs.cell (HK.out.po 10 (by decide)) hv
        by_cases hlo : sk.low v = sk.order v
        · have hb : (sk.low v == sk.order v) = true := by simp [hlo]
          have HV := hide (show finish v sk = popAll v sk from by unfold finish; rw [if_pos hlo])
          clear hlo
          obtain ⟨za, zc, hz⟩ := own_len HK.out.zo
          subst hz
          have c7 : wr.cell? ⟨I 7, 0, none⟩ = some (.slice za sk.size.length zc) := Blk.cell (HK.out.po 7 (by decide)) rfl
          have hsz : sk.size.length + sk.stk.length ≤ G.n := by have := HL2.out.inv.cap; have := HL2.out.inv.cnt; omega
          go_wp2
          go_quiet (fail)
          have HKq := hide (HK.out.later (show Ext wr (wr.drewN nq) from below_drewN (Ext.refl wr) nq))
          have d7 : (wr.drewN nq).cell? ⟨I 7, 0, none⟩ = some (.slice za sk.size.length zc) := c7
          clear c1 c9 c2 c10 c7 HK
          generalize wr.drewN nq = w5 at HKq d7 ⊢
          go_wp2_with (at_builtin; refine stop ?_)
          apply Stop.go
          have HK2 := hide (HKq.out.later ((Ext.refl _).alloc (.cells #[.int .i64 0] 3)))
          obtain ⟨i0, hi, hz0, hz1, hz2⟩ := info_parts info3
          refine wpList_append_own_at _ rfl (.tmp 91) (.tmp 92) 25 rfl W.heap.size 3 i0 (.int .i64 0) 1 8 Try.underlying25 hi hz0 hz1 hz2 rfl (by decide) (.slice za sk.size.length zc) sk.size.length (ints sk.size) rfl HK2.out.zo ⟨w5.heap.size, 0, none⟩ 1 1 [.int .i64 0] rfl rfl ?c1 ?c2 ?c3 ?c4 ?c5 ?_
          case c1 => exact one_new _ _ _ rfl
          case c2 => intro u hu; simp at hu; rcases hu with rfl; rfl
          case c3 => unfold maxLen; omega
          case c4 => omega
          case c5 => exact HK2.out.ext.size
          intro ZV1 w6 hown2 hgrow2 hnil2 hat2
          obtain ⟨gz, cz, hv1⟩ := own_shape hown2
          subst hv1
          have HK3 := hide (HK2.out.zpush (x := 0) hgrow2 hown2 hat2)
          have hk6 : ∀ k, k < 13 → PO I G.n _ _ SV2 (.slice za sk.size.length zc) w6 k := fun k hk => (HK2.out.po k hk).of_block (hgrow2.block _ (PO.lt hk (HK2.out.po k hk)) (fun e => HK2.out.zne k hk e.symm))
          have g7 : w6.cell? ⟨I 7, 0, none⟩ = some (.slice za sk.size.length zc) := Blk.cell (hk6 7 (by decide)) rfl
          have h7 : w6.frozen? ⟨I 7, 0, none⟩ = false := Blk.frozen (hk6 7 (by decide)) 0
          clear hown2 hgrow2 hnil2 hat2 hk6 hi hz0 hz1 hz2 d7 HK2 HKq
          go_wp2
          have HK4 := hide (show TM I G.n _ W _ (popN sk 0) _ _ from (popN_zero sk) ▸ HK3.out)
          generalize (w6.setCell ⟨I 7, 0, none⟩ (.slice (some ⟨gz, 0, none⟩) (sk.size.length + 1) cz)) = w7 at HK4 ⊢
          clear g7 h7 HK3
          obtain ⟨sg, hsg⟩ := HL2.out.stk
          have hvs : v ∉ sg := by
            have := HL2.out.inv.nodup
            rw [hsg, List.nodup_append] at this
            exact fun hm => this.2.2 v hm v List.mem_cons_self rfl
          have HS := hide (And.intro hsg (And.intro hvs (popN_last hsg hvs)))
          have hsgl : sg.length < sk.stk.length := by rw [hsg]; simp
          clear hsg hvs
          go_loopg [14] sg.length (fun g t wr => ∃ (i : Nat) (SV ZV : Value), i + g = sg.length ∧ Hid (TM I G.n (some ⟨eb, 0, none⟩) W wr (popN sk i) SV ZV))
          case atStart => exact ⟨0, _, _, by omega, HK4.out⟩
          case round =>
            obtain ⟨i, SV5, ZV5, hi, HT⟩ := hrel
            clear HK4
            obtain ⟨x, hx⟩ : ∃ x, sk.stk[i]? = some x := ⟨_, List.getElem?_eq_getElem (by omega)⟩
            have hdr : (popN sk i).stk = x :: sk.stk.drop (i + 1) := drop_step hx
            have hxn : x < G.n := HL2.out.inv.vis x (HL2.out.inv.stkv x (List.mem_of_getElem? hx))
            have HX := hide hx
            obtain ⟨gs, cs, hSV⟩ := own_shape (n := (sk.stk.drop (i + 1)).length) (by have := HT.out.so; rw [hdr] at this; exact this)
            subst hSV
            have hzl : (popN sk i).size = sk.size ++ [i] := rfl
            obtain ⟨gz, cz, hZV⟩ := own_shape (n := sk.size.length) (by have := HT.out.zo; rw [hzl, List.length_append] at this; exact this)
            subst hZV
            have hstop : wr.cell? ⟨gs, (sk.stk.drop (i + 1)).length, none⟩ = some (.int .i64 (x : Int)) := by
              have h1 := HT.out.so.cells (g := gs) rfl (sk.stk.drop (i + 1)).length (.int .i64 (x : Int)) (by rw [hdr]; simp [ints])
              rw [Addr.add_lit, Nat.zero_add] at h1
              exact h1
            have hzc : wr.cell? ⟨gz, sk.size.length, none⟩ = some (.int .i64 (i : Int)) := by
              have h1 := HT.out.zo.cells (g := gz) rfl sk.size.length (.int .i64 (i : Int)) (by rw [hzl]; simp [ints])
              rw [Addr.add_lit, Nat.zero_add] at h1
              exact h1
            have hzf : wr.frozen? ⟨gz, sk.size.length, none⟩ = false := own_frozen HT.out.zo
            have HD := hide (And.intro hdr hzl)
            have hrl : (sk.stk.drop (i + 1)).length ≤ 65536 := by rw [List.length_drop]; omega
            generalize hr : sk.stk.drop (i + 1) = r at hstop hrl HD
            have HR := hide hr
            clear hr hdr hzl hx
            have hcap : r.length + 1 ≤ cs ∧ cs ≤ 9223372036854775807 := by rw [← HR.out]; exact own_cap HT.out.so
            obtain ⟨hcap1, hcap2⟩ := hcap
            have HT2 := hide (show TM I G.n (some ⟨eb, 0, none⟩) W wr (popN sk i) (.slice (some ⟨gs, 0, none⟩) (r.length + 1) cs) (.slice (some ⟨gz, 0, none⟩) (sk.size.length + 1) cz) from by rw [← HR.out]; exact HT.out)
            clear HT
            have c3 : wr.cell? ⟨I 3, 0, none⟩ = some (.slice (some ⟨gs, 0, none⟩) (r.length + 1) cs) := Blk.cell (HT2.out.po 3 (by decide)) rfl
            have f3 : wr.frozen? ⟨I 3, 0, none⟩ = false := Blk.frozen (HT2.out.po 3 (by decide)) 0
            have c4 : wr.cell? ⟨I 4, 0, none⟩ = some (.slice (some ⟨I 11, 0, none⟩) G.n G.n) := Blk.cell (HT2.out.po 4 (by decide)) rfl
            have c11 : wr.cell? ⟨I 11, x, none⟩ = some (.bool ((popN sk i).ons x)) := World.rowIs.cell (HT2.out.po 11 (by decide)) hxn
            have f11 : wr.frozen? ⟨I 11, x, none⟩ = false := World.rowIs.frozen (HT2.out.po 11 (by decide)) x
            have c8 : wr.cell? ⟨I 8, 0, none⟩ = some (.slice (some ⟨I 12, 0, none⟩) G.n G.n) := Blk.cell (HT2.out.po 8 (by decide)) rfl
            have c12 : wr.cell? ⟨I 12, x, none⟩ = some (.int .i64 ((popN sk i).comp x)) := World.rowIs.cell (HT2.out.po 12 (by decide)) hxn
            have f12 : wr.frozen? ⟨I 12, x, none⟩ = false := World.rowIs.frozen (HT2.out.po 12 (by decide)) x
            have c7 : wr.cell? ⟨I 7, 0, none⟩ = some (.slice (some ⟨gz, 0, none⟩) (sk.size.length + 1) cz) := Blk.cell (HT2.out.po 7 (by decide)) rfl
            have n1 : I 4 ≠ I 3 := HT2.out.ne (by decide)
            have n2 : I 11 ≠ I 3 := HT2.out.ne (by decide)
            have n3 : I 8 ≠ I 3 := HT2.out.ne (by decide)
            have n4 : I 8 ≠ I 11 := HT2.out.ne (by decide)
            have n5 : I 12 ≠ I 3 := HT2.out.ne (by decide)
            have n6 : I 12 ≠ I 11 := HT2.out.ne (by decide)
            have n7 : I 7 ≠ I 3 := HT2.out.ne (by decide)
            have n8 : I 7 ≠ I 11 := HT2.out.ne (by decide)
            have n9 : I 7 ≠ I 12 := HT2.out.ne (by decide)
            have m1 : gz ≠ I 3 := fun e => HT2.out.zne 3 (by decide) (by rw [← e]; rfl)
            have m2 : gz ≠ I 11 := fun e => HT2.out.zne 11 (by decide) (by rw [← e]; rfl)
            have m3 : gz ≠ I 12 := fun e => HT2.out.zne 12 (by decide) (by rw [← e]; rfl)
            have HT7 := hide (HT2.out.popStep HX.out HR.out)
            by_cases hxv : x = v
            · have HEnd := hide (show i = sg.length from by
                rcases Nat.lt_or_ge i sg.length with h | h
                · have h1 := HX.out
                  rw [HS.out.1, List.getElem?_append_left h] at h1
                  exact absurd (hxv ▸ List.mem_of_getElem? h1) HS.out.2.1
                · omega)
              have hb : ((x : Int) == (v : Int)) = true := by simp [hxv]
              clear hxv
              go_wp2
              refine bodyPost_ret (results_none Try.results30 _ _ _) rfl ⟨rfl, .slice (some ⟨gs, 0, none⟩) r.length cs, .slice (some ⟨gz, 0, none⟩) (sk.size.length + 1) cz, ?_⟩
              rw [← HF2.out, HV.out, ← HS.out.2.2, ← HEnd.out]
              exact HT7.out
            · have hil := hide (show i < sg.length from by
                rcases Nat.lt_or_ge i sg.length with h | h
                · exact h
                · have e : i = sg.length := by omega
                  have h1 := HX.out
                  rw [HS.out.1, e] at h1
                  simp at h1
                  exact absurd h1.symm hxv)
              have hb : ((x : Int) == (v : Int)) = false := by simp; omega
              clear hxv
              go_wp2
              go_roundg (sg.length - (i + 1))
              case measure => have := hil.out; omega
              case rel => exact ⟨i + 1, _, _, by have := hil.out; omega, HT7.out⟩
        · have hb : (sk.low v == sk.order v) = false := by simp [hlo]
          have HV := hide (show finish v sk = sk from by unfold finish; rw [if_neg hlo])
          clear hlo
          go_wp2
          go_quiet (fail)
          go_wp2
          refine bodyPost_ret (results_none Try.results30 _ _ _) rfl ⟨rfl, SV2, ZV2, ?_⟩
          rw [← HF2.out, HV.out]
          exact HK.out.later (below_drewN (Ext.refl wr) nq)
end Go.Proofs.Qxb6001235a
