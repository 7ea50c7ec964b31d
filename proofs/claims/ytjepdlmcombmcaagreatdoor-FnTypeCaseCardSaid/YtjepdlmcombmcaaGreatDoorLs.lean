/- A simple type is parsed. Conditions: the parser's state stands behind an identifier, the name that it is first equal to; what the next token is. -/
import Derived.Test.YtjepdlmcombmcaaGreatDoorLr
namespace Go.Proofs.YtjepdlmcombmcaaGreatDoor.Lx
open Go.RowKit Go.Proofs.YtjepdlmcombmcaaGreatDoorW.PrintWords

/-- Block r holds the simple type of the name nm. -/
def Simple (w : World) (r : Nat) (nm : ByteArray) : Prop := ∃ tp : Int, w.heap[r]? = some (.cells #[.int .i64 tp, .string nm] 110 (0, 0))
theorem Simple.name {w : World} {r : Nat} {nm : ByteArray} (h : Simple w r nm) : w.cell? ⟨r, 1, none⟩ = some (.string nm) := by
  obtain ⟨tp, h⟩ := h
  exact (blk_cell h 1).trans rfl
theorem Simple.ups {w w1 : World} {r b : Nat} {nm : ByteArray} (h : Simple w r nm) (hu : Ups b w w1) (hn : r ≠ b) : Simple w1 r nm := by
  obtain ⟨tp, h⟩ := h
  exact ⟨tp, hu.obj h hn⟩
abbrev IDENT : ByteArray := ⟨#[60, 105, 100, 101, 110, 116, 62]⟩
/-- What the parser leaves behind a simple type. -/
def Simpled (b fb : Nat) (nm : ByteArray) (k t : ByteArray) (q : Int) (v : Nat → Value) (w : World) (e : Ending) (w' : World) : Prop :=
  ∃ r, e = .returned (v r) ∧ w.heap.size ≤ r ∧ r < w'.heap.size ∧ Ups b w w' ∧ Simple w' r nm ∧ ∃ y, TokSt k t q y ∧ IsL w' b fb y

set_option maxRecDepth 100000 in
theorem simple_c (pb b fb : Nat) (x : St) (w : World) (s : ByteArray) (u : ByteArray) (j : Int) (p q : Int) (k t : ByteArray) (hP : IsP w pb b) (hL : IsL w b fb x) (hF : IsF w fb s) (hx : TokSt IDENT u p x) (hS : Step s p k t q) (h1 : (u.size : Int) ≤ 1000000) (hj : FirstTy u j) :
    Calls Tryz.prog 101 #[.pointer (some ⟨pb, 0, none⟩)] w (Simpled b fb (nmOf j) k t q (fun r => .pointer (some ⟨r, 0, none⟩)) w) := by
  have P0 := hP.lex
  have L1 : w.cell? ⟨b, 1, none⟩ = some (.string IDENT) := by rw [← hx.kind]; exact hL.c1
  have HX := Aside0.mk hx
  have HS := Aside0.mk hS
  obtain ⟨j0, j1, jy, jn⟩ := hj
  have HN := Aside0.mk jn
  have hb := hL.lt
  clear jn hx hS
  go_enter Tryz.func101, Tryz.ntmps101
  go_wp2_with (first
    | (go_at_call 119; (with_reducible refine (expect_c pb b fb x _ s IDENT u p q k t hP hL hF HX.out HS.out).mono ?_); rintro e w1 ⟨g, rfl, hg, hU1, hC, y, hy, hLy⟩)
    | (go_at_call 116; (with_reducible refine (simpleTypes_c _).mono ?_); rintro e w' ⟨rfl, rfl⟩))
  have HY := Aside0.mk hy
  clear hy
  have hI : IdTok w1 g 0 u := hC.idTok HX.out
  have hB := heap_alloc_new w1 (.cells tyCells 9)
  have hI2 : IdTok (w1.alloc (.cells tyCells 9)) g 0 u := Copy.idTok (blk_below hC (below_alloc (Below.refl _ _) _)) HX.out
  have h7 : (w1.alloc (.cells tyCells 9)).cell? ⟨g, 6, none⟩ = some (.int .i64 x.tp) := Copy.c6 (blk_below hC (below_alloc (Below.refl _ _) _))
  go_loopg [28] 13 (fun kq v28 wr => ∃ i : Int, v28 = .int .i64 i ∧ Aside0 (0 ≤ i ∧ i ≤ j ∧ (12 - i).toNat < kq) ∧ Drawn0 (w1.alloc (.cells tyCells 9)) wr)
  case atStart => exact ⟨0, rfl, ⟨Int.le_refl _, j0, by omega⟩, Drawn0.refl _⟩
  case round =>
    obtain ⟨i, rfl, HA, ⟨m1, rfl⟩⟩ := hrel
    have i0 := HA.out.1
    have i1 : i < 12 := by have := HA.out.2.1; omega
    have hcell : (w1.alloc (.cells tyCells 9)).cell? ⟨w1.heap.size, i.toNat, none⟩ = some (.string (nmOf i)) := (cell_of_row _ _ i.toNat tyCells 9 (0, 0) hB).trans (tyCells_get i i0 i1)
    by_cases hij : i = j
    · subst hij
      go_wp2_with (first | (go_at_call 117; (with_reducible refine (isIdent_c g 0 u _ _ (hI2.drewN _) h1).mono ?_); rintro e w' ⟨rfl, ⟨n1, rfl⟩⟩))
      go_ret
      have hbel := fun o => below_alloc (pw_below_drewN (below_alloc (Below.refl w1.heap.size w1) (.cells tyCells 9)) (m1 + n1)) o
      have hnew := heap_alloc_new ((w1.alloc (.cells tyCells 9)).drewN (m1 + n1)) (.cells #[.int .i64 x.tp, .string (nmOf i)] 110)
      have hsz := hU1.size
      refine ⟨w1.heap.size + 1, rfl, by omega, by simp [go_sem], hU1.below (hbel _), ⟨x.tp, by simpa using hnew⟩, y, HY.out, hLy.below (hbel _)⟩
    · have hn := HN.out i i0 (by have := HA.out.2.1; omega)
      go_wp2_with (first | (go_at_call 117; (with_reducible refine (isIdent_c g 0 u _ _ (hI2.drewN _) h1).mono ?_); rintro e w' ⟨rfl, ⟨n1, rfl⟩⟩))
      go_roundg ((12 - (i + 1)).toNat + 1)
      case measure => have := HA.out.2.2; omega
      case rel => exact ⟨i + 1, rfl, ⟨by omega, by have := HA.out.2.1; omega, by omega⟩, by repeat (first | exact Drawn0.refl _ | apply Drawn0.step)⟩
end Go.Proofs.YtjepdlmcombmcaaGreatDoor.Lx
