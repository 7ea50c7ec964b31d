/- Two texts are compared without regard to case; a token is asked for a name. Conditions: texts of at most a million bytes. -/
import Derived.Test.YtjepdlmcombmcaaGreatDoorLf
namespace Go.Proofs.YtjepdlmcombmcaaGreatDoor.Lx
open Go.RowKit Go.Proofs.YtjepdlmcombmcaaGreatDoorW.PrintWords

/-- How far two texts are the same but for case. -/
def eqRun (s t : ByteArray) (i : Int) : Int := upto (fun j => up (bt s j) == up (bt t j)) (s.size : Int) i
def foldEq (s t : ByteArray) : Bool := decide (s.size = t.size ∧ eqRun s t 0 = (s.size : Int))
theorem foldEq_no {s t : ByteArray} {i : Int} (hi : i < (s.size : Int)) (h : eqRun s t 0 = i) : foldEq s t = false := decide_eq_false (fun ⟨_, h2⟩ => by omega)

set_option maxHeartbeats 8000000 in
theorem equalFold_c (s t : ByteArray) (w : World) (hs : (s.size : Int) ≤ 1000000) :
    Calls Tryz.prog 134 #[.string s, .string t] w fun e w' => e = .returned (.bool (foldEq s t)) ∧ Drawn0 w w' := by
  by_cases hz : (s.size : Int) = (t.size : Int)
  case neg =>
    have hz1 : ((s.size : Int) == (t.size : Int)) = false := beqf hz
    have hz2 : (s.size == t.size) = false := by simpa using fun h : s.size = t.size => hz (by rw [h])
    have hf : foldEq s t = false := decide_eq_false (fun ⟨h1, _⟩ => hz (by rw [h1]))
    have HF := Aside0.mk hf
    clear hf hz
    go_enter Tryz.func134, Tryz.ntmps134
    go_wp2
    all_goals (go_ret; exact ⟨ret_bool HF.out.symm, by repeat (first | exact Drawn0.refl _ | apply Drawn0.step)⟩)
  have hz1 : ((s.size : Int) == (t.size : Int)) = true := by simpa using hz
  have hz3 : ((s.size : Int) != (t.size : Int)) = false := by simp only [bne, hz1]; rfl
  have hz2 : (s.size == t.size) = true := by rw [show s.size = t.size by omega]; exact beq_self_eq_true _
  have HZ := Aside0.mk hz
  clear hz
  go_enter Tryz.func134, Tryz.ntmps134
  go_wp2
  go_loopg [5] ((s.size : Int).toNat + 1) (fun kq v5 wr => ∃ i : Int, v5 = .int .i64 i ∧ Aside0 (0 ≤ i ∧ i ≤ (s.size : Int) ∧ eqRun s t i = eqRun s t 0 ∧ ((s.size : Int) - i).toNat < kq) ∧ Drawn0 w wr)
  case atStart => exact ⟨0, rfl, ⟨Int.le_refl _, by omega, rfl, by omega⟩, Drawn0.refl _⟩
  case round =>
    obtain ⟨i, rfl, HA, ⟨m1, rfl⟩⟩ := hrel
    have i0 := HA.out.1
    by_cases hi : i < (s.size : Int)
    · have hit : i < (t.size : Int) := by have := HZ.out; omega
      have hx := bt_at s i
      have hxt := bt_at t i
      have b0 := (bt_range s i).1
      have b1 := (bt_range s i).2
      have b2 := (bt_range t i).1
      have b3 := (bt_range t i).2
      by_cases hc : 97 ≤ bt s i ∧ bt s i ≤ 122
      · by_cases hd : 97 ≤ bt t i ∧ bt t i ≤ 122
        · by_cases he : up (bt s i) = up (bt t i)
          · have rc : 65 + (bt s i - 97) = up (bt s i) := by unfold up; rw [if_pos hc]; omega
            have rd : 65 + (bt t i - 97) = up (bt t i) := by unfold up; rw [if_pos hd]; omega
            have he1 : (up (bt s i) == up (bt t i)) = true := by simpa using he
            have he2 : (up (bt s i) != up (bt t i)) = false := by simp only [bne, he1]; rfl
            have HE := Aside0.mk he
            clear he
            obtain ⟨c0, c1⟩ := hc
            obtain ⟨d0, d1⟩ := hd
            go_wp2
            go_quiet (fail)
            go_wp2
            go_roundg (((s.size : Int) - (i + 1)).toNat + 1)
            case measure => have := HA.out.2.2.2; omega
            case rel => exact ⟨i + 1, rfl, ⟨by omega, by omega, by rw [← HA.out.2.2.1]; exact (upto_step hi (by simpa using HE.out)).symm, by omega⟩, by repeat (first | exact Drawn0.refl _ | apply Drawn0.step)⟩
          · have rc : 65 + (bt s i - 97) = up (bt s i) := by unfold up; rw [if_pos hc]; omega
            have rd : 65 + (bt t i - 97) = up (bt t i) := by unfold up; rw [if_pos hd]; omega
            have he1 : (up (bt s i) == up (bt t i)) = false := by exact beqf (fun q => he (by exact q))
            have he2 : (up (bt s i) != up (bt t i)) = true := by simp only [bne, he1]; rfl
            have HE := Aside0.mk he
            clear he
            obtain ⟨c0, c1⟩ := hc
            obtain ⟨d0, d1⟩ := hd
            go_wp2
            go_quiet (fail)
            go_wp2
            go_ret
            exact ⟨ret_bool (foldEq_no hi (HA.out.2.2.1.symm.trans (upto_stop (by simpa using HE.out))) ).symm, by repeat (first | exact Drawn0.refl _ | apply Drawn0.step)⟩
        · have yd : up (bt t i) = bt t i := by unfold up; rw [if_neg hd]
          have kd : decide (97 ≤ bt t i) = false ∨ 97 ≤ bt t i ∧ decide (bt t i ≤ 122) = false := by
            by_cases c0 : 97 ≤ bt t i
            · exact .inr ⟨c0, decide_eq_false (fun c1 => hd ⟨c0, c1⟩)⟩
            · exact .inl (decide_eq_false c0)
          clear hd
          by_cases he : up (bt s i) = up (bt t i)
          · have rc : 65 + (bt s i - 97) = up (bt s i) := by unfold up; rw [if_pos hc]; omega
            have he1 : (up (bt s i) == bt t i) = true := by simpa using (show up (bt s i) = bt t i by have q := he; rw [yd] at q; exact q)
            have he2 : (up (bt s i) != bt t i) = false := by simp only [bne, he1]; rfl
            have HE := Aside0.mk he
            clear he
            obtain ⟨c0, c1⟩ := hc
            clear yd
            rcases kd with d0 | ⟨d1, d0⟩
            · go_wp2
              go_quiet (fail)
              go_wp2
              go_roundg (((s.size : Int) - (i + 1)).toNat + 1)
              case measure => have := HA.out.2.2.2; omega
              case rel => exact ⟨i + 1, rfl, ⟨by omega, by omega, by rw [← HA.out.2.2.1]; exact (upto_step hi (by simpa using HE.out)).symm, by omega⟩, by repeat (first | exact Drawn0.refl _ | apply Drawn0.step)⟩
            · go_wp2
              go_quiet (fail)
              go_wp2
              go_roundg (((s.size : Int) - (i + 1)).toNat + 1)
              case measure => have := HA.out.2.2.2; omega
              case rel => exact ⟨i + 1, rfl, ⟨by omega, by omega, by rw [← HA.out.2.2.1]; exact (upto_step hi (by simpa using HE.out)).symm, by omega⟩, by repeat (first | exact Drawn0.refl _ | apply Drawn0.step)⟩
          · have rc : 65 + (bt s i - 97) = up (bt s i) := by unfold up; rw [if_pos hc]; omega
            have he1 : (up (bt s i) == bt t i) = false := by exact beqf (fun q => he (by rw [yd]; exact q))
            have he2 : (up (bt s i) != bt t i) = true := by simp only [bne, he1]; rfl
            have HE := Aside0.mk he
            clear he
            obtain ⟨c0, c1⟩ := hc
            clear yd
            rcases kd with d0 | ⟨d1, d0⟩
            · go_wp2
              go_quiet (fail)
              go_wp2
              go_ret
              exact ⟨ret_bool (foldEq_no hi (HA.out.2.2.1.symm.trans (upto_stop (by simpa using HE.out))) ).symm, by repeat (first | exact Drawn0.refl _ | apply Drawn0.step)⟩
            · go_wp2
              go_quiet (fail)
              go_wp2
              go_ret
              exact ⟨ret_bool (foldEq_no hi (HA.out.2.2.1.symm.trans (upto_stop (by simpa using HE.out))) ).symm, by repeat (first | exact Drawn0.refl _ | apply Drawn0.step)⟩
      · have yc : up (bt s i) = bt s i := by unfold up; rw [if_neg hc]
        have kc : decide (97 ≤ bt s i) = false ∨ 97 ≤ bt s i ∧ decide (bt s i ≤ 122) = false := by
          by_cases c0 : 97 ≤ bt s i
          · exact .inr ⟨c0, decide_eq_false (fun c1 => hc ⟨c0, c1⟩)⟩
          · exact .inl (decide_eq_false c0)
        clear hc
        by_cases hd : 97 ≤ bt t i ∧ bt t i ≤ 122
        · by_cases he : up (bt s i) = up (bt t i)
          · have rd : 65 + (bt t i - 97) = up (bt t i) := by unfold up; rw [if_pos hd]; omega
            have he1 : (bt s i == up (bt t i)) = true := by simpa using (show bt s i = up (bt t i) by have q := he; rw [yc] at q; exact q)
            have he2 : (bt s i != up (bt t i)) = false := by simp only [bne, he1]; rfl
            have HE := Aside0.mk he
            clear he
            clear yc
            obtain ⟨d0, d1⟩ := hd
            rcases kc with c0 | ⟨c1, c0⟩
            · go_wp2
              go_quiet (fail)
              go_wp2
              go_roundg (((s.size : Int) - (i + 1)).toNat + 1)
              case measure => have := HA.out.2.2.2; omega
              case rel => exact ⟨i + 1, rfl, ⟨by omega, by omega, by rw [← HA.out.2.2.1]; exact (upto_step hi (by simpa using HE.out)).symm, by omega⟩, by repeat (first | exact Drawn0.refl _ | apply Drawn0.step)⟩
            · go_wp2
              go_quiet (fail)
              go_wp2
              go_roundg (((s.size : Int) - (i + 1)).toNat + 1)
              case measure => have := HA.out.2.2.2; omega
              case rel => exact ⟨i + 1, rfl, ⟨by omega, by omega, by rw [← HA.out.2.2.1]; exact (upto_step hi (by simpa using HE.out)).symm, by omega⟩, by repeat (first | exact Drawn0.refl _ | apply Drawn0.step)⟩
          · have rd : 65 + (bt t i - 97) = up (bt t i) := by unfold up; rw [if_pos hd]; omega
            have he1 : (bt s i == up (bt t i)) = false := by exact beqf (fun q => he (by rw [yc]; exact q))
            have he2 : (bt s i != up (bt t i)) = true := by simp only [bne, he1]; rfl
            have HE := Aside0.mk he
            clear he
            clear yc
            obtain ⟨d0, d1⟩ := hd
            rcases kc with c0 | ⟨c1, c0⟩
            · go_wp2
              go_quiet (fail)
              go_wp2
              go_ret
              exact ⟨ret_bool (foldEq_no hi (HA.out.2.2.1.symm.trans (upto_stop (by simpa using HE.out))) ).symm, by repeat (first | exact Drawn0.refl _ | apply Drawn0.step)⟩
            · go_wp2
              go_quiet (fail)
              go_wp2
              go_ret
              exact ⟨ret_bool (foldEq_no hi (HA.out.2.2.1.symm.trans (upto_stop (by simpa using HE.out))) ).symm, by repeat (first | exact Drawn0.refl _ | apply Drawn0.step)⟩
        · have yd : up (bt t i) = bt t i := by unfold up; rw [if_neg hd]
          have kd : decide (97 ≤ bt t i) = false ∨ 97 ≤ bt t i ∧ decide (bt t i ≤ 122) = false := by
            by_cases c0 : 97 ≤ bt t i
            · exact .inr ⟨c0, decide_eq_false (fun c1 => hd ⟨c0, c1⟩)⟩
            · exact .inl (decide_eq_false c0)
          clear hd
          by_cases he : up (bt s i) = up (bt t i)
          · have he1 : (bt s i == bt t i) = true := by simpa using (show bt s i = bt t i by have q := he; rw [yc] at q; rw [yd] at q; exact q)
            have he2 : (bt s i != bt t i) = false := by simp only [bne, he1]; rfl
            have HE := Aside0.mk he
            clear he
            clear yc
            clear yd
            rcases kc with c0 | ⟨c1, c0⟩
            · rcases kd with d0 | ⟨d1, d0⟩
              · go_wp2
                go_quiet (fail)
                go_wp2
                go_roundg (((s.size : Int) - (i + 1)).toNat + 1)
                case measure => have := HA.out.2.2.2; omega
                case rel => exact ⟨i + 1, rfl, ⟨by omega, by omega, by rw [← HA.out.2.2.1]; exact (upto_step hi (by simpa using HE.out)).symm, by omega⟩, by repeat (first | exact Drawn0.refl _ | apply Drawn0.step)⟩
              · go_wp2
                go_quiet (fail)
                go_wp2
                go_roundg (((s.size : Int) - (i + 1)).toNat + 1)
                case measure => have := HA.out.2.2.2; omega
                case rel => exact ⟨i + 1, rfl, ⟨by omega, by omega, by rw [← HA.out.2.2.1]; exact (upto_step hi (by simpa using HE.out)).symm, by omega⟩, by repeat (first | exact Drawn0.refl _ | apply Drawn0.step)⟩
            · rcases kd with d0 | ⟨d1, d0⟩
              · go_wp2
                go_quiet (fail)
                go_wp2
                go_roundg (((s.size : Int) - (i + 1)).toNat + 1)
                case measure => have := HA.out.2.2.2; omega
                case rel => exact ⟨i + 1, rfl, ⟨by omega, by omega, by rw [← HA.out.2.2.1]; exact (upto_step hi (by simpa using HE.out)).symm, by omega⟩, by repeat (first | exact Drawn0.refl _ | apply Drawn0.step)⟩
              · go_wp2
                go_quiet (fail)
                go_wp2
                go_roundg (((s.size : Int) - (i + 1)).toNat + 1)
                case measure => have := HA.out.2.2.2; omega
                case rel => exact ⟨i + 1, rfl, ⟨by omega, by omega, by rw [← HA.out.2.2.1]; exact (upto_step hi (by simpa using HE.out)).symm, by omega⟩, by repeat (first | exact Drawn0.refl _ | apply Drawn0.step)⟩
          · have he1 : (bt s i == bt t i) = false := by exact beqf (fun q => he (by rw [yc]; rw [yd]; exact q))
            have he2 : (bt s i != bt t i) = true := by simp only [bne, he1]; rfl
            have HE := Aside0.mk he
            clear he
            clear yc
            clear yd
            rcases kc with c0 | ⟨c1, c0⟩
            · rcases kd with d0 | ⟨d1, d0⟩
              · go_wp2
                go_quiet (fail)
                go_wp2
                go_ret
                exact ⟨ret_bool (foldEq_no hi (HA.out.2.2.1.symm.trans (upto_stop (by simpa using HE.out))) ).symm, by repeat (first | exact Drawn0.refl _ | apply Drawn0.step)⟩
              · go_wp2
                go_quiet (fail)
                go_wp2
                go_ret
                exact ⟨ret_bool (foldEq_no hi (HA.out.2.2.1.symm.trans (upto_stop (by simpa using HE.out))) ).symm, by repeat (first | exact Drawn0.refl _ | apply Drawn0.step)⟩
            · rcases kd with d0 | ⟨d1, d0⟩
              · go_wp2
                go_quiet (fail)
                go_wp2
                go_ret
                exact ⟨ret_bool (foldEq_no hi (HA.out.2.2.1.symm.trans (upto_stop (by simpa using HE.out))) ).symm, by repeat (first | exact Drawn0.refl _ | apply Drawn0.step)⟩
              · go_wp2
                go_quiet (fail)
                go_wp2
                go_ret
                exact ⟨ret_bool (foldEq_no hi (HA.out.2.2.1.symm.trans (upto_stop (by simpa using HE.out))) ).symm, by repeat (first | exact Drawn0.refl _ | apply Drawn0.step)⟩
    · have hf : foldEq s t = true := decide_eq_true ⟨by have := HZ.out; omega, by rw [← HA.out.2.2.1]; have := HA.out.2.1; exact (upto_end (by omega)).trans (by omega)⟩
      have HF := Aside0.mk hf
      clear hf
      go_wp2
      go_ret
      exact ⟨ret_bool HF.out.symm, by repeat (first | exact Drawn0.refl _ | apply Drawn0.step)⟩

/-- The token at block g, from its cell o on, is an identifier of the text u. -/
structure IdTok (w : World) (g o : Nat) (u : ByteArray) : Prop where
  kind : w.cell? ⟨g, o, none⟩ = some (.string ⟨#[60, 105, 100, 101, 110, 116, 62]⟩)
  txt : w.cell? ⟨g, o + 4, none⟩ = some (.string u)
theorem IdTok.drewN {w : World} {g o : Nat} {u : ByteArray} (h : IdTok w g o u) (n : Nat) : IdTok (w.drewN n) g o u := ⟨h.kind, h.txt⟩
theorem IdTok.alloc {w : World} {g o : Nat} {u : ByteArray} (h : IdTok w g o u) (x : Obj) : IdTok (w.alloc x) g o u :=
  ⟨pw_cell_below (below_alloc (Below.refl _ _) x) h.kind, pw_cell_below (below_alloc (Below.refl _ _) x) h.txt⟩
theorem isIdent_c (g o : Nat) (u v : ByteArray) (w : World) (h : IdTok w g o u) (h1 : (u.size : Int) ≤ 1000000) :
    Calls Tryz.prog 117 #[.pointer (some ⟨g, o, none⟩), .string v] w fun e w' => e = .returned (.bool (foldEq u v)) ∧ Drawn0 w w' := by
  obtain ⟨hk, hu⟩ := h
  go_enter Tryz.func117, Tryz.ntmps117
  go_wp2_with (first | (go_at_call 134; (with_reducible refine (equalFold_c u v _ h1).mono ?_); rintro e w' ⟨rfl, ⟨n1, rfl⟩⟩))
  go_ret
  exact ⟨rfl, by repeat (first | exact Drawn0.refl _ | apply Drawn0.step)⟩

/-- The names of the simple types, in the program's order. -/
def tyNames : List (List UInt8) := [[66, 79, 79, 76], [73, 78, 84, 54, 52], [70, 76, 79, 65, 84, 51, 50], [70, 76, 79, 65, 84, 54, 52], [68, 65, 84, 69], [84, 73, 77, 69, 83, 84, 65, 77, 80], [78, 85, 77, 69, 82, 73, 67], [83, 84, 82, 73, 78, 71], [66, 89, 84, 69, 83], [74, 83, 79, 78], [84, 79, 75, 69, 78, 76, 73, 83, 84], [73, 78, 84, 69, 82, 86, 65, 76]]
def tyCells : Array Value := (tyNames.map fun l => Value.string ⟨l.toArray⟩).toArray
theorem simpleTypes_c (w : World) :
    Calls Tryz.prog 116 #[] w fun e w' => e = .returned (.slice (some ⟨w.heap.size, 0, none⟩) 12 12) ∧ w' = w.alloc (.cells tyCells 9) := by
  go_enter Tryz.func116, Tryz.ntmps116
  go_wp2
  go_ret
  exact ⟨rfl, rfl⟩
end Go.Proofs.YtjepdlmcombmcaaGreatDoor.Lx
