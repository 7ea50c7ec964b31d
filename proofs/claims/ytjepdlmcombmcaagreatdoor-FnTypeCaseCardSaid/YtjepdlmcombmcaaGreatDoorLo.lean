/- The names of the simple types are searched for a token's text. Conditions: the token lies as an identifier; which name it is the first to be equal to. -/
import Derived.Test.YtjepdlmcombmcaaGreatDoorLn
namespace Go.Proofs.YtjepdlmcombmcaaGreatDoor.Lx
open Go.RowKit Go.Proofs.YtjepdlmcombmcaaGreatDoorW.PrintWords

def nmOf (k : Int) : ByteArray := ⟨(tyNames.getD k.toNat []).toArray⟩
theorem tyCells_get (k : Int) (h0 : 0 ≤ k) (h1 : k < 12) : tyCells[k.toNat]? = some (.string (nmOf k)) := by
  obtain ⟨n, rfl⟩ := Int.eq_ofNat_of_zero_le h0
  have hn : n < 12 := by omega
  match n, hn with
  | 0, _ => rfl
  | 1, _ => rfl
  | 2, _ => rfl
  | 3, _ => rfl
  | 4, _ => rfl
  | 5, _ => rfl
  | 6, _ => rfl
  | 7, _ => rfl
  | 8, _ => rfl
  | 9, _ => rfl
  | 10, _ => rfl
  | 11, _ => rfl
/-- The name at j is the first one that u is equal to. -/
def FirstTy (u : ByteArray) (j : Int) : Prop := 0 ≤ j ∧ j < 12 ∧ foldEq u (nmOf j) = true ∧ ∀ k, 0 ≤ k → k < j → foldEq u (nmOf k) = false

theorem indexFunc_c (B g o : Nat) (u : ByteArray) (j : Int) (w : World) (hB : w.heap[B]? = some (.cells tyCells 9 (0, 0)))
    (hI : IdTok w g o u) (h1 : (u.size : Int) ≤ 1000000) (hj : FirstTy u j) :
    Calls Tryz.prog 133 #[.slice (some ⟨B, 0, none⟩) 12 12, .func (.func 117) #[.pointer (some ⟨g, o, none⟩)] #[]] w fun e w' => e = .returned (.int .i64 j) ∧ Drawn0 w w' := by
  obtain ⟨j0, j1, jy, jn⟩ := hj
  have HN := Aside0.mk jn
  clear jn
  go_enter Tryz.func133, Tryz.ntmps133
  go_wp2
  go_loopg [8] 13 (fun kq v8 wr => ∃ i : Int, v8 = .int .i64 i ∧ Aside0 (0 ≤ i ∧ i ≤ j ∧ (12 - i).toNat < kq) ∧ Drawn0 w wr)
  case atStart => exact ⟨0, rfl, ⟨Int.le_refl _, j0, by omega⟩, Drawn0.refl _⟩
  case round =>
    obtain ⟨i, rfl, HA, ⟨m1, rfl⟩⟩ := hrel
    have i0 := HA.out.1
    have i1 : i < 12 := by have := HA.out.2.1; omega
    have hcell : w.cell? ⟨B, i.toNat, none⟩ = some (.string (nmOf i)) := (cell_of_row w B i.toNat tyCells 9 (0, 0) hB).trans (tyCells_get i i0 i1)
    by_cases hij : i = j
    · subst hij
      go_wp2_with (first | (go_at_call 117; (with_reducible refine (isIdent_c g o u _ _ (hI.drewN _) h1).mono ?_); rintro e w' ⟨rfl, ⟨n1, rfl⟩⟩))
      go_ret
      exact ⟨rfl, by repeat (first | exact Drawn0.refl _ | apply Drawn0.step)⟩
    · have hn := HN.out i i0 (by have := HA.out.2.1; omega)
      go_wp2_with (first | (go_at_call 117; (with_reducible refine (isIdent_c g o u _ _ (hI.drewN _) h1).mono ?_); rintro e w' ⟨rfl, ⟨n1, rfl⟩⟩))
      go_roundg ((12 - (i + 1)).toNat + 1)
      case measure => have := HA.out.2.2; omega
      case rel => exact ⟨i + 1, rfl, ⟨by omega, by have := HA.out.2.1; omega, by omega⟩, by repeat (first | exact Drawn0.refl _ | apply Drawn0.step)⟩

theorem containsFunc_c (B g o : Nat) (u : ByteArray) (j : Int) (w : World) (hB : w.heap[B]? = some (.cells tyCells 9 (0, 0))) (hI : IdTok w g o u) (h1 : (u.size : Int) ≤ 1000000) (hj : FirstTy u j) :
    Calls Tryz.prog 115 #[.slice (some ⟨B, 0, none⟩) 12 12, .func (.func 117) #[.pointer (some ⟨g, o, none⟩)] #[]] w fun e w' => e = .returned (.bool true) ∧ Drawn0 w w' := by
  have j0 := hj.1
  go_enter Tryz.func115, Tryz.ntmps115
  go_wp2_with (first | (go_at_call 133; (with_reducible refine (indexFunc_c B g o u j _ hB hI h1 hj).mono ?_); rintro e w' ⟨rfl, ⟨n1, rfl⟩⟩))
  go_ret
  exact ⟨rfl, by repeat (first | exact Drawn0.refl _ | apply Drawn0.step)⟩

/-- The parser at block pb has the lexer at block b and no errors. -/
def IsP (w : World) (pb b : Nat) : Prop := w.heap[pb]? = some (.cells #[.pointer (some ⟨b, 0, none⟩), .slice none 0 0] 143 (0, 0))
theorem IsP.lex {w : World} {pb b : Nat} (h : IsP w pb b) : w.cell? ⟨pb, 0, none⟩ = some (.pointer (some ⟨b, 0, none⟩)) := (blk_cell h 0).trans rfl
theorem IsP.errs {w : World} {pb b : Nat} (h : IsP w pb b) : w.cell? ⟨pb, 1, none⟩ = some (.slice none 0 0) := (blk_cell h 1).trans rfl
theorem IsP.ne {w : World} {pb b b' fb : Nat} {x : St} (h : IsP w pb b) (hL : IsL w b' fb x) : pb ≠ b' := blk_ne h hL (by decide)
theorem IsP.ups {w w1 : World} {pb b b' : Nat} (h : IsP w pb b) (hu : Ups b' w w1) (hn : pb ≠ b') : IsP w1 pb b := hu.obj h hn

set_option maxHeartbeats 1000000 in
theorem lookahead_c (pb b fb : Nat) (x : St) (j : Int) (w : World) (hP : IsP w pb b) (hL : IsL w b fb x) (hk : x.kind = ⟨#[60, 105, 100, 101, 110, 116, 62]⟩) (hcom : x.com = .slice none 0 0) (h1 : (x.txt.size : Int) ≤ 1000000) (hj : FirstTy x.txt j) :
    Calls Tryz.prog 99 #[.pointer (some ⟨pb, 0, none⟩)] w fun e w' => e = .returned (.bool true) ∧ Below w.heap.size w w' := by
  have P0 := hP.lex
  have L1 : w.cell? ⟨b, 1, none⟩ = some (.string ⟨#[60, 105, 100, 101, 110, 116, 62]⟩) := by rw [← hk]; exact hL.c1
  have L2 : w.cell? ⟨b, 2, none⟩ = some (.slice none 0 0) := by rw [← hcom]; exact hL.c2
  have L3 := hL.c3
  have L4 := hL.c4
  have L5 := hL.c5
  have L6 := hL.c6
  have L7 := hL.c7
  have L8 := hL.c8
  clear hk hcom
  have hmf : ∀ (fn : Fn) (first cap : Array Value) (w : World), (Instr.makeFunc fn first cap).run Tryz.prog w = .ok (.func fn first cap) w := fun _ _ _ _ => rfl
  go_enter Tryz.func99, Tryz.ntmps99
  go_wp2_with (first | (go_at_call 116; (with_reducible refine (simpleTypes_c _).mono ?_); rintro e w' ⟨rfl, rfl⟩))
  refine (containsFunc_c (w.heap.size + 1) w.heap.size 0 x.txt j _ ?_ ?_ h1 hj).mono ?_
  · have := fun (o : Obj) => heap_alloc_new (w.alloc o) (.cells tyCells 9)
    simpa using this _
  · exact ⟨by simp [go_sem], by simp [go_sem]⟩
  rintro e w' ⟨rfl, ⟨n1, rfl⟩⟩
  go_wp2
  go_ret
  exact ⟨rfl, ((below_alloc (below_alloc (Below.refl _ _) _) _ |> fun h => pw_below_drewN h _))⟩
end Go.Proofs.YtjepdlmcombmcaaGreatDoor.Lx
