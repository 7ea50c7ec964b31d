/- Bytes: what the small predicates on bytes return. No conditions. -/
import Derived.Test.YtjepdlmcombmcaaGreatDoorLa
namespace Go.Proofs.YtjepdlmcombmcaaGreatDoor.Lx
open Go.RowKit Go.Proofs.YtjepdlmcombmcaaGreatDoorW.PrintWords

def isDigit (c : Int) : Bool := decide (48 ≤ c ∧ c ≤ 57)
def isLetter (c : Int) : Bool := decide (97 ≤ c ∧ c ≤ 122 ∨ 65 ≤ c ∧ c ≤ 90 ∨ c = 95)
def isPart (c : Int) : Bool := decide (48 ≤ c ∧ c ≤ 57 ∨ 97 ≤ c ∧ c ≤ 122 ∨ 65 ≤ c ∧ c ≤ 90 ∨ c = 95)
def isHex (c : Int) : Bool := decide (48 ≤ c ∧ c ≤ 57 ∨ 97 ≤ c ∧ c ≤ 102 ∨ 65 ≤ c ∧ c ≤ 70)
def isOct (c : Int) : Bool := decide (48 ≤ c ∧ c ≤ 55)

theorem ret_bool {a b : Bool} (h : a = b) : Ending.returned (.bool a) = .returned (.bool b) := by rw [h]
theorem ret_int {k : IntKind} {a b : Int} (h : a = b) : Ending.returned (.int k a) = .returned (.int k b) := by rw [h]

theorem charIsIdentPart_c (c : Int) (w : World) : Calls Tryz.prog 76 #[.int .u8 c] w fun e w' => e = .returned (.bool (isPart c)) ∧ w' = w := by
  go_enter Tryz.func76, Tryz.ntmps76
  go_wp2
  all_goals (go_ret; exact ⟨ret_bool (by unfold isPart; rw [Bool.eq_iff_iff]; simp <;> omega), rfl⟩)
theorem charIsDigit_c (c : Int) (w : World) : Calls Tryz.prog 80 #[.int .u8 c] w fun e w' => e = .returned (.bool (isDigit c)) ∧ w' = w := by
  go_enter Tryz.func80, Tryz.ntmps80
  go_wp2
  all_goals (go_ret; exact ⟨ret_bool (by unfold isDigit; rw [Bool.eq_iff_iff]; simp <;> omega), rfl⟩)
theorem charIsIdentStart_c (c : Int) (w : World) : Calls Tryz.prog 82 #[.int .u8 c] w fun e w' => e = .returned (.bool (isLetter c)) ∧ w' = w := by
  go_enter Tryz.func82, Tryz.ntmps82
  go_wp2
  all_goals (go_ret; exact ⟨ret_bool (by unfold isLetter; rw [Bool.eq_iff_iff]; simp <;> omega), rfl⟩)
theorem charIsHexDigit_c (c : Int) (w : World) : Calls Tryz.prog 108 #[.int .u8 c] w fun e w' => e = .returned (.bool (isHex c)) ∧ w' = w := by
  go_enter Tryz.func108, Tryz.ntmps108
  go_wp2
  all_goals (go_ret; exact ⟨ret_bool (by unfold isHex; rw [Bool.eq_iff_iff]; simp <;> omega), rfl⟩)
theorem charIsOctalDigit_c (c : Int) (w : World) : Calls Tryz.prog 112 #[.int .u8 c] w fun e w' => e = .returned (.bool (isOct c)) ∧ w' = w := by
  go_enter Tryz.func112, Tryz.ntmps112
  go_wp2
  all_goals (go_ret; exact ⟨ret_bool (by unfold isOct; rw [Bool.eq_iff_iff]; simp <;> omega), rfl⟩)
theorem specDigit_c (c : Int) (w : World) : Calls Tryz.prog 40 #[.int .u8 c] w fun e w' => e = .returned (.bool (isDigit c)) ∧ w' = w := by
  go_enter Tryz.func40, Tryz.ntmps40
  go_wp2
  all_goals (go_ret; exact ⟨ret_bool (by unfold isDigit; rw [Bool.eq_iff_iff]; simp <;> omega), rfl⟩)
theorem specLetter_c (c : Int) (w : World) : Calls Tryz.prog 42 #[.int .u8 c] w fun e w' => e = .returned (.bool (isLetter c)) ∧ w' = w := by
  go_enter Tryz.func42, Tryz.ntmps42
  go_wp2
  all_goals (go_ret; exact ⟨ret_bool (by unfold isLetter; rw [Bool.eq_iff_iff]; simp <;> omega), rfl⟩)
theorem specIdentPart_c (c : Int) (w : World) : Calls Tryz.prog 37 #[.int .u8 c] w fun e w' => e = .returned (.bool (isPart c)) ∧ w' = w := by
  go_enter Tryz.func37, Tryz.ntmps37
  go_wp2
  all_goals (go_ret; exact ⟨ret_bool (by unfold isPart; rw [Bool.eq_iff_iff]; simp <;> omega), rfl⟩)
def isBlank (c : Int) : Bool := decide (c = 32 ∨ c = 9 ∨ c = 10 ∨ c = 13)
theorem specBlank_c (c : Int) (w : World) : Calls Tryz.prog 36 #[.int .u8 c] w fun e w' => e = .returned (.bool (isBlank c)) ∧ w' = w := by
  go_enter Tryz.func36, Tryz.ntmps36
  go_wp2
  all_goals (go_ret; exact ⟨ret_bool (by unfold isBlank; rw [Bool.eq_iff_iff]; simp <;> omega), rfl⟩)
/-- The value of a hexadecimal digit, or -1. -/
def hexVal (c : Int) : Int := if 48 ≤ c ∧ c ≤ 57 then c - 48 else if 97 ≤ c ∧ c ≤ 102 then c - 87 else if 65 ≤ c ∧ c ≤ 70 then c - 55 else -1
theorem specHex_c (c : Int) (w : World) (h0 : 0 ≤ c) (h1 : c ≤ 255) : Calls Tryz.prog 60 #[.int .u8 c] w fun e w' => e = .returned (.int .i64 (hexVal c)) ∧ w' = w := by
  go_enter Tryz.func60, Tryz.ntmps60
  go_wp2
  all_goals (go_ret; exact ⟨ret_int (by unfold hexVal; (repeat' split) <;> first | rfl | omega) , rfl⟩)
end Go.Proofs.YtjepdlmcombmcaaGreatDoor.Lx
