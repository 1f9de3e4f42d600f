import Derived.Test.Qxb6001235aCm
/-! Seat b6001235a: slices.Index, slices.Contains, hasEdge. -/
namespace Go.Proofs.Qxb6001235a
set_option linter.unusedVariables false
open Go.RowKit Go.Maps

def IdxP (w : World) (l : List Nat) (v : Nat) (e : Ending) (w' : World) : Prop := (∃ q : Int, e = .returned (.int .i64 q) ∧ decide (0 ≤ q) = decide (v ∈ l)) ∧ w' = w

theorem mem_take_step {l : List Nat} {k x v : Nat} (h : l[k]? = some x) (hne : x ≠ v) (hn : v ∉ l.take k) : v ∉ l.take (k + 1) := by
  rw [← take_snoc h]
  simp [hn]
  exact fun e => hne e.symm

set_option maxHeartbeats 400000 in
theorem index32 (a : Option Addr) (rb c : Nat) (l : List Nat) (v : Nat) (w : World) (hl : l.length ≤ 131072) (ha : 0 < l.length → a = some ⟨rb, 0, none⟩) (hc : ∀ (j x : Nat), l[j]? = some x → w.cell? ⟨rb, j, none⟩ = some (.int .i64 (x : Int))) :
    Calls Try.prog 32 #[.slice a l.length c, .int .i64 (v : Int)] w (IdxP w l v) := by
  have H := hide hc
  have HA := hide ha
  clear hc ha
  go_enter Try.func32, Try.ntmps32
  go_wp2
  go_loopg [8] l.length (fun g i wr => ∃ k : Nat, k + g = l.length ∧ i = .int .i64 (k : Int) ∧ wr = w ∧ Hid (v ∉ l.take k))
  case atStart => exact ⟨0, by omega, rfl, rfl, by show v ∉ l.take 0; simp⟩
  case round =>
    obtain ⟨k, hk, rfl, rfl, HB⟩ := hrel
    by_cases hlt : k < l.length
    · obtain rfl := HA.out (by omega)
      obtain ⟨x, hx⟩ : ∃ x, l[k]? = some x := ⟨_, List.getElem?_eq_getElem hlt⟩
      have hcx := H.out k x hx
      have HX := hide hx
      clear hx
      by_cases e : v = x
      · have hb : ((v : Int) == (x : Int)) = true := by simp [e]
        have hm := hide (show v ∈ l from e ▸ List.mem_of_getElem? HX.out)
        clear e
        go_wp2
        go_ret
        exact ⟨⟨_, rfl, by simp [hm.out]⟩, rfl⟩
      · have hb : ((v : Int) == (x : Int)) = false := by simp; omega
        have HN := hide (mem_take_step HX.out (fun e2 => e e2.symm) HB.out)
        clear e
        go_wp2
        go_roundg (l.length - (k + 1))
        case measure => omega
        case rel => exact ⟨k + 1, by omega, by go_num, rfl, HN⟩
    · have hm := hide (show v ∉ l from by have := HB.out; rw [List.take_of_length_le (by omega)] at this; exact this)
      go_wp2
      go_ret
      exact ⟨⟨_, rfl, by simp [hm.out]⟩, rfl⟩

def HasP (w : World) (b : Bool) (e : Ending) (w' : World) : Prop := e = .returned (.bool b) ∧ w' = w

set_option maxHeartbeats 400000 in
theorem contains29 (a : Option Addr) (rb c : Nat) (l : List Nat) (v : Nat) (w : World) (hl : l.length ≤ 131072) (ha : 0 < l.length → a = some ⟨rb, 0, none⟩) (hc : ∀ (j x : Nat), l[j]? = some x → w.cell? ⟨rb, j, none⟩ = some (.int .i64 (x : Int))) :
    Calls Try.prog 29 #[.slice a l.length c, .int .i64 (v : Int)] w (HasP w (decide (v ∈ l))) := by
  have H := hide hc
  have HA := hide ha
  clear hc ha
  go_enter Try.func29, Try.ntmps29
  go_wp2_with fail
  refine (index32 a rb c l v w hl HA.out H.out).mono ?_
  rintro e w1 ⟨⟨q, rfl, hq⟩, rfl⟩
  have HQ := hide hq
  clear hq
  go_wp2
  go_ret
  exact ⟨by rw [← HQ.out]; rfl, rfl⟩

set_option maxHeartbeats 400000 in
theorem has19 {G : Gr} {W : World} {ea : Option Addr} {eb : Nat} {RA : Nat → Option Addr} {RB : Nat → Nat} (hE : EdG W ea eb G RA RB) (u v : Nat) (hu : u < G.n) :
    Calls Try.prog 19 #[.slice ea G.n G.n, .int .i64 (u : Int), .int .i64 (v : Int)] W (HasP W (decide (v ∈ G.adj u))) := by
  obtain rfl := hE.ea (by omega)
  have HE := hide hE
  have hsm := hE.small
  have hlen := hE.len u hu
  have hcx := hE.outer u hu
  have HRA := hide (hE.ra u hu)
  generalize RA u = ra at hcx HRA
  clear hE
  go_enter Try.func19, Try.ntmps19
  go_wp2
  go_loopg [8] (G.adj u).length (fun g i wr => ∃ k : Nat, k + g = (G.adj u).length ∧ i = .int .i64 (k : Int) ∧ wr = W ∧ Hid (v ∉ (G.adj u).take k))
  case atStart => exact ⟨0, by omega, rfl, rfl, by show v ∉ (G.adj u).take 0; simp⟩
  case round =>
    obtain ⟨k, hk, rfl, rfl, HB⟩ := hrel
    by_cases hlt : k < (G.adj u).length
    · obtain rfl := HRA.out (by omega)
      obtain ⟨x, hx⟩ : ∃ x, (G.adj u)[k]? = some x := ⟨_, List.getElem?_eq_getElem hlt⟩
      have hcj := HE.out.inner u hu k x hx
      have HX := hide hx
      clear hx
      by_cases e : x = v
      · have hb : ((x : Int) == (v : Int)) = true := by simp [e]
        have hm := hide (show v ∈ G.adj u from e ▸ List.mem_of_getElem? HX.out)
        clear e
        go_wp2
        go_ret
        exact ⟨by rw [show decide (v ∈ G.adj u) = true by simp [hm.out]]; rfl, rfl⟩
      · have hb : ((x : Int) == (v : Int)) = false := by simp; omega
        have HN := hide (mem_take_step HX.out e HB.out)
        clear e
        go_wp2
        go_roundg ((G.adj u).length - (k + 1))
        case measure => omega
        case rel => exact ⟨k + 1, by omega, by go_num, rfl, HN⟩
    · have hm := hide (show v ∉ G.adj u from by have := HB.out; rw [List.take_of_length_le (by omega)] at this; exact this)
      go_wp2
      go_ret
      exact ⟨by rw [show decide (v ∈ G.adj u) = false by simp [hm.out]]; rfl, rfl⟩
end Go.Proofs.Qxb6001235a
