/- A text is read as a type: the record that readTyp answers. Conditions: the text parses; no backslash stands in it. -/
import Derived.Test.YtjepdlmcombmcaaGreatDoorLx
namespace Go.Proofs.YtjepdlmcombmcaaGreatDoor.Lx
open Go.RowKit Go.Proofs.YtjepdlmcombmcaaGreatDoorW.PrintWords

/-- The record's parts: of a simple type of the name nm, or (arr) of an array of it. -/
def RecIs (arr : Bool) (nm : ByteArray) (B : Nat) (w : World) (k n : ByteArray) (A : Option Addr) (l : Nat) : Prop :=
  (arr = false ∧ k = ⟨#[115, 105, 109, 112, 108, 101]⟩ ∧ n = nm ∧ A = none ∧ l = 0) ∨
  (arr = true ∧ k = ⟨#[97, 114, 114, 97, 121]⟩ ∧ n = ⟨#[]⟩ ∧ l = 1 ∧ ∃ g, A = some ⟨g, 0, none⟩ ∧ B ≤ g ∧ w.heap[g]? = some (.cells (#[Value.string ⟨#[115, 105, 109, 112, 108, 101]⟩, Value.string nm, Value.string ⟨#[]⟩, Value.slice none 0 0, Value.slice none 0 0]) 34 (0, 0)))
/-- What a reader of types leaves. -/
def Reads (arr : Bool) (nm : ByteArray) (w : World) (e : Ending) (w' : World) : Prop :=
  ∃ k n A l, e = .returned (.tuple #[.agg #[.string k, .string n, .string ⟨#[]⟩, .slice none 0 0, .slice A l l], .bool true]) ∧ Below w.heap.size w w' ∧ RecIs arr nm w.heap.size w' k n A l

theorem read_c (arr : Bool) (nm : ByteArray) (w : World) (T : TypeId) (r : Nat) (h : Good arr nm w (.iface T (.pointer (some ⟨r, 0, none⟩)))) :
    Calls Tryz.prog 32 #[.iface T (.pointer (some ⟨r, 0, none⟩))] w (Reads arr nm w) := by
  obtain ⟨r', ⟨rfl, hv, h⟩ | ⟨rfl, hv, h⟩⟩ := h
  · cases hv
    refine (readSimple_c r nm w h).mono ?_
    rintro e w' ⟨rfl, hb⟩
    exact ⟨_, _, _, _, rfl, hb, .inl ⟨rfl, rfl, rfl, rfl, rfl⟩⟩
  · cases hv
    refine (readArray_c r nm w h).mono ?_
    rintro e w' ⟨g, rfl, hb, hgs, hg⟩
    exact ⟨_, _, _, _, rfl, hb, .inr ⟨rfl, rfl, rfl, rfl, g, rfl, hgs, hg⟩⟩
theorem RecIs.below {arr : Bool} {nm : ByteArray} {B : Nat} {w w1 : World} {k n : ByteArray} {A : Option Addr} {l : Nat} (h : RecIs arr nm B w k n A l) (hb : Below w.heap.size w w1) : RecIs arr nm B w1 k n A l := by
  rcases h with h | ⟨h1, h2, h3, h4, g, h5, h6, h7⟩
  · exact .inl h
  · exact .inr ⟨h1, h2, h3, h4, g, h5, h6, blk_below h7 hb⟩
theorem RecIs.set {arr : Bool} {nm : ByteArray} {B : Nat} {w : World} {k n : ByteArray} {A : Option Addr} {l : Nat} (h : RecIs arr nm B w k n A l) {g0 : Nat} (hn : g0 < B) (i : Nat) (u : Value) : RecIs arr nm B (w.setCell ⟨g0, i, none⟩ u) k n A l := by
  rcases h with h | ⟨h1, h2, h3, h4, g, h5, h6, h7⟩
  · exact .inl h
  · exact .inr ⟨h1, h2, h3, h4, g, h5, h6, blk_far h7 (by show g ≠ g0; omega) u⟩
theorem RecIs.low {arr : Bool} {nm : ByteArray} {B B' : Nat} {w : World} {k n : ByteArray} {A : Option Addr} {l : Nat} (h : RecIs arr nm B w k n A l) (hn : B' ≤ B) : RecIs arr nm B' w k n A l := by
  rcases h with h | ⟨h1, h2, h3, h4, g, h5, h6, h7⟩
  · exact .inl h
  · exact .inr ⟨h1, h2, h3, h4, g, h5, Nat.le_trans hn h6, h7⟩

theorem brittle_c (s : ByteArray) (w : World) (hs : (s.size : Int) ≤ 1000000) (h : ∀ i : Int, 0 ≤ i → i < (s.size : Int) → bt s i ≠ 92) :
    Calls Tryz.prog 5 #[.string s] w fun e w' => e = .returned (.bool false) ∧ w' = w := by
  have HS := Aside0.mk h
  clear h
  go_enter Tryz.func5, Tryz.ntmps5
  go_wp2
  all_goals (
    go_loopg [3] (s.size + 1) (fun kq v3 wr => ∃ i : Int, v3 = .int .i64 i ∧ Aside0 (0 ≤ i ∧ ((s.size : Int) - i).toNat < kq) ∧ wr = w)
    case atStart => exact ⟨_, rfl, ⟨by omega, by omega⟩, rfl⟩
    case round =>
      obtain ⟨i, rfl, HA, rfl⟩ := hrel
      have i0 := HA.out.1
      have hx := bt_at s i
      by_cases hi : i < (s.size : Int)
      · have hne : (bt s i == 92) = false := by simpa using HS.out i i0 hi
        have hw := iwrap (i + 1) (by omega) (by omega)
        go_wp2
        go_roundg (((s.size : Int) - (i + 1)).toNat + 1)
        case measure => have := HA.out.2; omega
        case rel => exact ⟨i + 1, rfl, ⟨by omega, by omega⟩, rfl⟩
      · go_wp2
        go_ret
        exact ⟨rfl, rfl⟩)

theorem padded_c (s : ByteArray) (w : World) (hs : (s.size : Int) ≤ 1000000) (h : ∀ i : Int, 0 ≤ i → i < (s.size : Int) → bt s i ≠ 92) :
    Calls Tryz.prog 17 #[.string s] w fun e w' => e = .returned (.string s) ∧ w' = w := by
  go_enter Tryz.func17, Tryz.ntmps17
  go_wp2_with (first | (go_at_call 5; (with_reducible refine (brittle_c s _ hs h).mono ?_); rintro e w' ⟨rfl, rfl⟩))
  go_ret
  exact ⟨rfl, rfl⟩

set_option maxRecDepth 100000 in
set_option maxHeartbeats 1000000 in
theorem readType_c (s : ByteArray) (arr : Bool) (nm : ByteArray) (w : World) (hS : Parses s arr nm) :
    Calls Tryz.prog 19 #[.string s] w (Reads arr nm w) := by
  have B0 := blk_new w (.cells #[.string ⟨#[]⟩, .string ⟨#[]⟩, .string ⟨#[]⟩, .slice none 0 0, .slice none 0 0] 34)
  have e0 : ∀ o, (w.alloc o).heap.size = w.heap.size + 1 := by intro o; simp [go_sem]
  go_enter Tryz.func19, Tryz.ntmps19
  go_wp2_with (first
    | (go_at_call 31; (with_reducible refine (parse_c _ s arr nm _ hS).mono ?_); rintro e w1 ⟨T, r, rfl, hb1, hV⟩; have B1 := blk_below B0 hb1)
    | (go_at_call 32; (with_reducible refine (read_c arr nm _ T r hV).mono ?_); rintro e w2 ⟨k, n, A, l, rfl, hb2, hR⟩; have B2 := blk_below B1 hb2;
       have q0 := (blk_cell B2 0).trans rfl; have q1 := (blk_cell B2 1).trans rfl; have q2 := (blk_cell B2 2).trans rfl; have q3 := (blk_cell B2 3).trans rfl; have q4 := (blk_cell B2 4).trans rfl; have qf := (fun i => blk_frozen B2 i)))
  have C2 := blk_put (blk_put (blk_put (blk_put (blk_put B2 0 (.string k) rfl) 1 (.string n) rfl) 2 (.string ⟨#[]⟩) rfl) 3 (.slice none 0 0) rfl) 4 (.slice A l l) rfl
  refine bodyPost_ret (results_ct rfl _ _ w.heap.size 34 _ (0, 0) _ rfl C2 Tryz.underlying34 rfl rfl) rfl ?_
  have hs := hb1.size
  rw [e0] at hs
  have hB : Below w.heap.size w w1 := below_weaken (below_alloc (Below.refl _ _) _) (by rw [e0]; omega) hb1
  refine ⟨k, n, A, l, rfl, below_set (below_set (below_set (below_set (below_set (below_step hB hb2) ?_) ?_) ?_) ?_) ?_, ((((((hR.set ?_ 0 _).set ?_ 1 _).set ?_ 2 _).set ?_ 3 _).set ?_ 4 _).low ?_)⟩
  all_goals omega

set_option maxRecDepth 100000 in
set_option maxHeartbeats 1000000 in
theorem readTyp_c (s : ByteArray) (arr : Bool) (nm : ByteArray) (w : World) (hS : Parses s arr nm) (hs : (s.size : Int) ≤ 1000000) (hn : ∀ i : Int, 0 ≤ i → i < (s.size : Int) → bt s i ≠ 92) :
    Calls Tryz.prog 11 #[.string s] w (Reads arr nm w) := by
  have B0 := blk_new w (.cells #[.string ⟨#[]⟩, .string ⟨#[]⟩, .string ⟨#[]⟩, .slice none 0 0, .slice none 0 0] 34)
  have e0 : ∀ o, (w.alloc o).heap.size = w.heap.size + 1 := by intro o; simp [go_sem]
  go_enter Tryz.func11, Tryz.ntmps11
  go_wp2_with (first
    | (go_at_call 17; (with_reducible refine (padded_c s _ hs hn).mono ?_); rintro e w' ⟨rfl, rfl⟩)
    | (go_at_call 19; (with_reducible refine (readType_c s arr nm _ hS).mono ?_); rintro e w2 ⟨k, n, A, l, rfl, hb2, hR⟩; have B2 := blk_below B0 hb2;
       have q0 := (blk_cell B2 0).trans rfl; have q1 := (blk_cell B2 1).trans rfl; have q2 := (blk_cell B2 2).trans rfl; have q3 := (blk_cell B2 3).trans rfl; have q4 := (blk_cell B2 4).trans rfl; have qf := (fun i => blk_frozen B2 i)))
  have C2 := blk_put (blk_put (blk_put (blk_put (blk_put B2 0 (.string k) rfl) 1 (.string n) rfl) 2 (.string ⟨#[]⟩) rfl) 3 (.slice none 0 0) rfl) 4 (.slice A l l) rfl
  refine bodyPost_ret (results_ct rfl _ _ w.heap.size 34 _ (0, 0) _ rfl C2 Tryz.underlying34 rfl rfl) rfl ?_
  have hs := hb2.size
  rw [e0] at hs
  have hB : Below w.heap.size w w2 := below_weaken (below_alloc (Below.refl _ _) _) (by rw [e0]; omega) hb2
  rw [e0] at hR
  refine ⟨k, n, A, l, rfl, below_set (below_set (below_set (below_set (below_set hB ?_) ?_) ?_) ?_) ?_, ((((((hR.set ?_ 0 _).set ?_ 1 _).set ?_ 2 _).set ?_ 3 _).set ?_ 4 _).low ?_)⟩
  all_goals omega
end Go.Proofs.YtjepdlmcombmcaaGreatDoor.Lx
