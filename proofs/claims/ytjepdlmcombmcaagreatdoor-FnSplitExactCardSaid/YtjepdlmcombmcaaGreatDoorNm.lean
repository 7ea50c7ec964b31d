/- A code point's bytes: what EncodeRune leaves, as far as their number goes. Conditions: the four bytes' block lies; the number is a code point. -/
import Derived.Test.YtjepdlmcombmcaaGreatDoorNi
namespace Go.Proofs.YtjepdlmcombmcaaGreatDoor.Lx
open Go.RowKit Go.Proofs.YtjepdlmcombmcaaGreatDoorW.PrintWords

/-- The four bytes' block. -/
def Four (w : World) (g : Nat) (T : TypeId) : Prop := ∃ a b c d : Int, w.heap[g]? = some (.cells #[.int .u8 a, .int .u8 b, .int .u8 c, .int .u8 d] T (0, 0))
theorem Four.set {w : World} {g : Nat} {T : TypeId} (h : Four w g T) (i : Nat) (hi : i < 4) (v : Int) : Four (w.setCell ⟨g, i, none⟩ (.int .u8 v)) g T := by
  obtain ⟨a, b, c, d, h⟩ := h
  have hi' : i = 0 ∨ i = 1 ∨ i = 2 ∨ i = 3 := by omega
  rcases hi' with rfl | rfl | rfl | rfl
  · exact ⟨v, b, c, d, (blk_set h 0 _).trans rfl⟩
  · exact ⟨a, v, c, d, (blk_set h 1 _).trans rfl⟩
  · exact ⟨a, b, v, d, (blk_set h 2 _).trans rfl⟩
  · exact ⟨a, b, c, v, (blk_set h 3 _).trans rfl⟩
theorem Four.drewN {w : World} {g : Nat} {T : TypeId} (h : Four w g T) (n : Nat) : Four (w.drewN n) g T := h
/-- What is left: so many bytes; only the block has changed. -/
def Encodes (g : Nat) (T : TypeId) (w : World) (e : Ending) (w' : World) : Prop :=
  ∃ n : Int, 1 ≤ n ∧ n ≤ 4 ∧ e = .returned (.int .i64 n) ∧ Ups g w w' ∧ Four w' g T

set_option maxRecDepth 100000 in
set_option maxHeartbeats 1000000 in
theorem enc2 (g : Nat) (T : TypeId) (r : Int) (w : World) (hB : Four w g T) (h0 : 128 ≤ r) (h1 : r ≤ 2047) :
    Calls Tryz.prog 132 #[.slice (some ⟨g, 0, none⟩) 4 4, .int .i32 r] w (Encodes g T w) := by
  have hB0 := Aside0.mk hB
  obtain ⟨a, b, c, d, hB⟩ := hB
  have F0 := (blk_cell hB 0).trans rfl
  have F1 := (blk_cell hB 1).trans rfl
  have F2 := (blk_cell hB 2).trans rfl
  have F3 := (blk_cell hB 3).trans rfl
  have Z := fun i => blk_frozen hB i
  have hr : r % 4294967296 = r := by omega
  have d1 : decide (r ≤ 2047) = true := decide_eq_true (by omega)
  clear hB
  go_enter Tryz.func132, Tryz.ntmps132
  go_wp2
  go_ret
  exact ⟨2, by omega, by omega, rfl, by repeat (first | exact Ups.refl _ _ | apply Ups.set), by repeat (first | exact hB0.out | refine Four.set ?_ _ (by omega) _)⟩

set_option maxRecDepth 100000 in
set_option maxHeartbeats 1000000 in
theorem enc3a (g : Nat) (T : TypeId) (r : Int) (w : World) (hB : Four w g T) (h0 : 2048 ≤ r) (h1 : r < 55296) :
    Calls Tryz.prog 132 #[.slice (some ⟨g, 0, none⟩) 4 4, .int .i32 r] w (Encodes g T w) := by
  have hB0 := Aside0.mk hB
  obtain ⟨a, b, c, d, hB⟩ := hB
  have F0 := (blk_cell hB 0).trans rfl
  have F1 := (blk_cell hB 1).trans rfl
  have F2 := (blk_cell hB 2).trans rfl
  have F3 := (blk_cell hB 3).trans rfl
  have Z := fun i => blk_frozen hB i
  have hr : r % 4294967296 = r := by omega
  have d1 : decide (r ≤ 2047) = false := decide_eq_false (by omega)
  have d2 : decide (r < 55296) = true := decide_eq_true (by omega)
  clear hB
  go_enter Tryz.func132, Tryz.ntmps132
  go_wp2
  go_ret
  exact ⟨3, by omega, by omega, rfl, by repeat (first | exact Ups.refl _ _ | apply Ups.set), by repeat (first | exact hB0.out | refine Four.set ?_ _ (by omega) _)⟩

set_option maxRecDepth 100000 in
set_option maxHeartbeats 1000000 in
theorem enc3b (g : Nat) (T : TypeId) (r : Int) (w : World) (hB : Four w g T) (h0 : 57343 < r) (h1 : r ≤ 65535) :
    Calls Tryz.prog 132 #[.slice (some ⟨g, 0, none⟩) 4 4, .int .i32 r] w (Encodes g T w) := by
  have hB0 := Aside0.mk hB
  obtain ⟨a, b, c, d, hB⟩ := hB
  have F0 := (blk_cell hB 0).trans rfl
  have F1 := (blk_cell hB 1).trans rfl
  have F2 := (blk_cell hB 2).trans rfl
  have F3 := (blk_cell hB 3).trans rfl
  have Z := fun i => blk_frozen hB i
  have hr : r % 4294967296 = r := by omega
  have d1 : decide (r ≤ 2047) = false := decide_eq_false (by omega)
  have d2 : decide (r < 55296) = false := decide_eq_false (by omega)
  have d3 : decide (57343 < r) = true := decide_eq_true (by omega)
  have d4 : decide (r ≤ 65535) = true := decide_eq_true (by omega)
  clear hB
  go_enter Tryz.func132, Tryz.ntmps132
  go_wp2
  go_ret
  exact ⟨3, by omega, by omega, rfl, by repeat (first | exact Ups.refl _ _ | apply Ups.set), by repeat (first | exact hB0.out | refine Four.set ?_ _ (by omega) _)⟩

set_option maxRecDepth 100000 in
set_option maxHeartbeats 1000000 in
theorem enc4 (g : Nat) (T : TypeId) (r : Int) (w : World) (hB : Four w g T) (h0 : 65535 < r) (h1 : r ≤ 1114111) :
    Calls Tryz.prog 132 #[.slice (some ⟨g, 0, none⟩) 4 4, .int .i32 r] w (Encodes g T w) := by
  have hB0 := Aside0.mk hB
  obtain ⟨a, b, c, d, hB⟩ := hB
  have F0 := (blk_cell hB 0).trans rfl
  have F1 := (blk_cell hB 1).trans rfl
  have F2 := (blk_cell hB 2).trans rfl
  have F3 := (blk_cell hB 3).trans rfl
  have Z := fun i => blk_frozen hB i
  have hr : r % 4294967296 = r := by omega
  have d1 : decide (r ≤ 2047) = false := decide_eq_false (by omega)
  have d2 : decide (r < 55296) = false := decide_eq_false (by omega)
  have d3 : decide (57343 < r) = true := decide_eq_true (by omega)
  have d4 : decide (r ≤ 65535) = false := decide_eq_false (by omega)
  have d5 : decide (65535 < r) = true := decide_eq_true (by omega)
  have d6 : decide (r ≤ 1114111) = true := decide_eq_true (by omega)
  clear hB
  go_enter Tryz.func132, Tryz.ntmps132
  go_wp2
  go_ret
  exact ⟨4, by omega, by omega, rfl, by repeat (first | exact Ups.refl _ _ | apply Ups.set), by repeat (first | exact hB0.out | refine Four.set ?_ _ (by omega) _)⟩

theorem encodeRune_c (g : Nat) (T : TypeId) (r : Int) (w : World) (hB : Four w g T) (h0 : 0 ≤ r) (h1 : isRune r = true) :
    Calls Tryz.prog 111 #[.slice (some ⟨g, 0, none⟩) 4 4, .int .i32 r] w (Encodes g T w) := by
  have hi : r ≤ 1114111 ∧ ¬ (55296 ≤ r ∧ r ≤ 57343) := by
    unfold isRune at h1
    simp only [Bool.and_eq_true, decide_eq_true_eq, Bool.not_eq_true', Bool.and_eq_false_iff, decide_eq_false_iff_not] at h1
    omega
  have hr : r % 4294967296 = r := by omega
  by_cases h127 : r ≤ 127
  · have hB0 := Aside0.mk hB
    obtain ⟨a, b, c, d, hB⟩ := hB
    have F0 := (blk_cell hB 0).trans rfl
    have Z := fun i => blk_frozen hB i
    have d1 : decide (r ≤ 127) = true := decide_eq_true h127
    clear hB h1 hi
    go_enter Tryz.func111, Tryz.ntmps111
    go_wp2
    go_ret
    exact ⟨1, by omega, by omega, rfl, by repeat (first | exact Ups.refl _ _ | apply Ups.set), by repeat (first | exact hB0.out | refine Four.set ?_ _ (by omega) _)⟩
  · have hc : Calls Tryz.prog 132 #[.slice (some ⟨g, 0, none⟩) 4 4, .int .i32 r] w (Encodes g T w) := by
      by_cases h2 : r ≤ 2047
      · exact enc2 g T r w hB (by omega) h2
      · by_cases h3 : r < 55296
        · exact enc3a g T r w hB (by omega) h3
        · by_cases h4 : r ≤ 65535
          · exact enc3b g T r w hB (by omega) h4
          · exact enc4 g T r w hB (by omega) (by omega)
    have HC := Aside0.mk hc
    have d1 : decide (r ≤ 127) = false := decide_eq_false h127
    clear hc hB h1
    go_enter Tryz.func111, Tryz.ntmps111
    go_wp2_with (first
      | (go_at_call 132; (with_reducible refine (HC.out).mono ?_); rintro e w1 ⟨n, n1, n2, rfl, hU, hF⟩))
    go_ret
    exact ⟨n, n1, n2, rfl, hU, hF⟩
end Go.Proofs.YtjepdlmcombmcaaGreatDoor.Lx
