/- The token at a place, case by case: the pure law's steps. Plain laws; no program. -/
import Derived.Test.YtjepdlmcombmcaaGreatDoorNy
namespace Go.Proofs.YtjepdlmcombmcaaGreatDoor.Lx
open Go.RowKit Go.Proofs.YtjepdlmcombmcaaGreatDoorW.PrintWords

section
variable {s : ByteArray} {p : Int} {aft : Bool} {x : St}
theorem dig_not {c : Int} (h : isDigit c = true) : (c == 96) = false := by
  have h1 : 48 ≤ c ∧ c ≤ 57 := of_decide_eq_true h
  exact beqf (by omega)
theorem tokR_dig (h : x.pos < (s.size : Int)) (hd : isDigit (bt s x.pos) = true) : tokR x (tok s aft x.pos) = numR x (num s x.pos) := by
  unfold tok
  rw [if_neg (by omega), dig_not hd, hd]
  cases num s x.pos with
  | none => rfl
  | some r => rfl
theorem tokR_dotnum (h : x.pos < (s.size : Int)) (hc : bt s x.pos = 46) (hd : isDigit (bt s (x.pos + 1)) = true) : tokR x (tok s false x.pos) = numR x (num s x.pos) := by
  unfold tok
  rw [if_neg (by omega), hc, hd]
  cases num s x.pos with
  | none => rfl
  | some r => rfl
theorem tokR_tick (h : x.pos < (s.size : Int)) (hc : bt s x.pos = 96) : tokR x (tok s aft x.pos) = idR x (lit s false false x.pos) := by
  unfold tok
  rw [if_neg (by omega), hc]
  cases hl : lit s false false x.pos with
  | none => simp [tokR, idR]
  | some e =>
    by_cases he : e = x.pos + 2
    · simp [tokR, idR, he]
    · simp [tokR, idR, he]
theorem tok_par (h : x.pos < (s.size : Int)) (hc : bt s x.pos = 64) (hl : isLetter (bt s (x.pos + 1)) = true) : tokR x (tok s aft x.pos) = some (.field, run isPart s (x.pos + 1), x.dot) := by
  unfold tok
  rw [if_neg (by omega), hc, hl]
  rfl
/-- No number, no parameter, no quoted name stands at p. -/
structure Plain (s : ByteArray) (p : Int) : Prop where
  h : p < (s.size : Int)
  h96 : (bt s p == 96) = false
  hd : isDigit (bt s p) = false
  h46 : (bt s p == 46) = false
  h64 : (bt s p == 64) = false
theorem tok_plain (hP : Plain s p) : tok s aft p = match pfx s 3 p false false with
    | some (q, raw, bytes) =>
      match lit s raw bytes q with
      | none => none
      | some e => some (.other, e)
    | none =>
      if isLetter (bt s p) then some (if kw (upS (wordOf s p (run isPart s p))).toList = true then .other else .field, run isPart s p)
      else if isSign2 (bt s p) (bt s (p + 1)) then some (.other, p + 2)
      else if isSign1 (bt s p) then some (sgn (bt s p), p + 1)
      else none := by
  unfold tok
  have := hP.h
  rw [if_neg (by omega), hP.h96, hP.hd, hP.h46, hP.h64]
  rfl
theorem tokR_pfx {q : Int} {raw bytes : Bool} (hP : Plain s x.pos) (hp : pfx s 3 x.pos false false = some (q, raw, bytes)) : tokR x (tok s aft x.pos) = litR x (lit s raw bytes q) := by
  rw [tok_plain hP, hp]
  simp only []
  cases lit s raw bytes q with
  | none => rfl
  | some e => rfl
theorem tokR_word (hP : Plain s x.pos) (hp : pfx s 3 x.pos false false = none) (hl : isLetter (bt s x.pos) = true) : tokR x (tok s aft x.pos) = some (if kw (upS (wordOf s x.pos (run isPart s x.pos))).toList = true then .other else .field, run isPart s x.pos, x.dot) := by
  rw [tok_plain hP, hp, hl]
  simp only [if_true]
  split <;> rfl
theorem plain_letter (h : p < (s.size : Int)) (hl : isLetter (bt s p) = true) : Plain s p := by
  have h1 : 97 ≤ bt s p ∧ bt s p ≤ 122 ∨ 65 ≤ bt s p ∧ bt s p ≤ 90 ∨ bt s p = 95 := of_decide_eq_true hl
  exact ⟨h, beqf (by omega), decide_eq_false (by omega), beqf (by omega), beqf (by omega)⟩
theorem pfx_B (hm : isMark (bt s p) = false) (hr : isR (bt s p) = false) (hb : isB (bt s p) = true) :
    pfx s 3 p false false = if isMark (bt s (p + 1)) then some (p + 1, false, true) else if isR (bt s (p + 1)) then (if isMark (bt s (p + 2)) then some (p + 2, true, true) else none) else none := by
  simp only [pfx, hm, hr, hb, Bool.not_false, Bool.not_true, Bool.and_true, Bool.and_false, Bool.false_eq_true, if_false, if_true, show p + 1 + 1 = p + 2 by omega]
theorem pfx_R (hm : isMark (bt s p) = false) (hr : isR (bt s p) = true) :
    pfx s 3 p false false = if isMark (bt s (p + 1)) then some (p + 1, true, false) else if isB (bt s (p + 1)) then (if isMark (bt s (p + 2)) then some (p + 2, true, true) else none) else none := by
  simp only [pfx, hm, hr, Bool.not_false, Bool.not_true, Bool.and_true, Bool.and_false, Bool.false_eq_true, if_false, if_true, show p + 1 + 1 = p + 2 by omega]
theorem mark_not_R {c : Int} (h : isMark c = true) : isR c = false := by
  unfold isMark at h
  simp only [Bool.or_eq_true, beq_iff_eq] at h
  rcases h with rfl | rfl <;> rfl
theorem mark_not_B {c : Int} (h : isMark c = true) : isB c = false := by
  unfold isMark at h
  simp only [Bool.or_eq_true, beq_iff_eq] at h
  rcases h with rfl | rfl <;> rfl
end
end Go.Proofs.YtjepdlmcombmcaaGreatDoor.Lx
