/- The ten names, their letters turned, and an array of one: what the lexer's steps are there. Plain law. -/
import Derived.Test.YtjepdlmcombmcaaGreatDoorMa
import Derived.Test.YtjepdlmcombmcaaGreatDoorLw
import Derived.Test.YtjepdlmcombmcaaGreatDoorLz
namespace Go.Proofs.YtjepdlmcombmcaaGreatDoor.Lx
open Go.RowKit Go.Proofs.YtjepdlmcombmcaaGreatDoorW.PrintWords

/-! ### bytes -/
theorem bt_out (s : ByteArray) (i : Int) (h : s.size ≤ i.toNat) : bt s i = 0 := by
  unfold bt
  rw [dif_neg (by omega)]
theorem eq_of_bt {a b : ByteArray} (hs : a.size = b.size) (h : ∀ i : Nat, i < a.size → bt a (i : Int) = bt b (i : Int)) : a = b := by
  apply ByteArray.ext
  apply Array.ext
  · exact hs
  · intro i h1 h2
    have hi := h i h1
    have e1 := bt_at a (i : Int) (by simpa using h1)
    have e2 := bt_at b (i : Int) (by simpa using h2)
    rw [← e1, ← e2] at hi
    have h3 : (a[((i : Int).toNat)]'(by simpa using h1)).toNat = (b[((i : Int).toNat)]'(by simpa using h2)).toNat := by exact_mod_cast hi
    have h4 := UInt8.toNat_inj.1 h3
    exact h4
theorem bt_app_l (a b : ByteArray) (i : Int) (h0 : 0 ≤ i) (h : i < (a.size : Int)) : bt (a ++ b) i = bt a i := by
  have h2 : i.toNat < a.size := by omega
  have h1 : i.toNat < (a ++ b).size := by rw [ByteArray.size_append]; omega
  rw [← bt_at _ i h1, ← bt_at a i h2]
  congr 2
  exact ByteArray.getElem_append_left h2
theorem bt_app_r (a b : ByteArray) (i : Int) (h0 : (a.size : Int) ≤ i) (h : i < (a.size : Int) + b.size) : bt (a ++ b) i = bt b (i - a.size) := by
  have h1 : i.toNat < (a ++ b).size := by rw [ByteArray.size_append]; omega
  have h2 : (i - a.size).toNat < b.size := by omega
  rw [← bt_at _ i h1, ← bt_at b (i - a.size) h2]
  congr 2
  rw [ByteArray.getElem_append_right (by omega)]
  congr 1
  omega
theorem run_to {p : Int → Bool} {s : ByteArray} {q : Int} (hq : q ≤ (s.size : Int)) (hstop : q = (s.size : Int) ∨ p (bt s q) = false) : ∀ (n : Nat) (i : Int), (q - i).toNat ≤ n → i ≤ q → (∀ j, i ≤ j → j < q → p (bt s j) = true) → run p s i = q := by
  intro n
  induction n with
  | zero =>
    intro i hn hi _
    obtain rfl : i = q := by omega
    rcases hstop with h | h
    · exact run_end (by omega)
    · exact run_stop h
  | succ n ih =>
    intro i hn hi hj
    by_cases h : i < q
    · rw [run_step (by omega) (hj i (Int.le_refl _) h)]
      exact ih (i + 1) (by omega) (by omega) (fun j h1 h2 => hj j (by omega) h2)
    · obtain rfl : i = q := by omega
      rcases hstop with h | h
      · exact run_end (by omega)
      · exact run_stop h

/-! ### turned texts -/
theorem bt_str (ys : List Int) (j : Nat) (hj : j < ys.length) (h0 : 0 ≤ ys.getD j 0) (h1 : ys.getD j 0 ≤ 255) : bt (strOfNums ys) (j : Int) = ys.getD j 0 := by
  have hl : (j : Int).toNat < (strOfNums ys).size := by rw [strOfNums_size]; simpa using hj
  rw [← bt_at _ _ hl]
  have e : (strOfNums ys)[((j : Int).toNat)]'hl = UInt8.ofNat (ys.getD j 0).toNat := by
    have h2 : (strOfNums ys).data.toList[j]? = some (UInt8.ofNat (ys.getD j 0).toNat) := by
      rw [strOfNums_data, List.getElem?_map, List.getElem?_eq_getElem hj]
      simp [List.getD_eq_getElem?_getD, hj]
    have h3 : (strOfNums ys).data[j]? = some (UInt8.ofNat (ys.getD j 0).toNat) := by rw [← Array.getElem?_toList]; exact h2
    obtain ⟨_, h4⟩ := Array.getElem?_eq_some_iff.1 h3
    exact h4
  rw [e]
  have : (ys.getD j 0).toNat < 256 := by omega
  rw [UInt8.toNat_ofNat']
  omega
/-- Of the two texts each byte is the other's, or the other case of that letter. -/
structure Turn (s t : ByteArray) : Prop where
  size : t.size = s.size
  at_ : ∀ i : Int, TurnB (bt s i) (bt t i)
theorem TurnL.turn {s : ByteArray} {ys : List Int} (h : TurnL s ys) : Turn s (strOfNums ys) := by
  refine ⟨by rw [strOfNums_size]; exact h.1, fun i => ?_⟩
  by_cases hi : i.toNat < s.size
  · have e : ∀ a, bt a i = bt a (i.toNat : Int) := fun a => rfl
    rw [e, e]
    have hb := bt_range s (i.toNat : Int)
    have ht := h.2 i.toNat hi
    rw [bt_str ys i.toNat (by rw [h.1]; exact hi) (by unfold TurnB at ht; omega) (by unfold TurnB at ht; omega)]
    exact ht
  · rw [bt_out s i (by omega), bt_out _ i (by rw [strOfNums_size, h.1]; omega)]
    exact .inl rfl
theorem TurnB.up_eq {c d : Int} (h : TurnB c d) : Lx.up d = Lx.up c := by
  unfold TurnB at h
  unfold Lx.up
  split <;> split <;> omega
theorem Turn.nb {s t : ByteArray} (h : Turn s t) : (Lx.nb t).map Lx.up = (Lx.nb s).map Lx.up := by
  apply List.ext_getElem?
  intro j
  rw [List.getElem?_map, List.getElem?_map]
  by_cases hj : j < s.size
  · have e1 := nb_get t (j : Int) (by omega) (by have := h.size; omega)
    have e2 := nb_get s (j : Int) (by omega) (by omega)
    simp only [Int.toNat_natCast] at e1 e2
    rw [e1, e2]
    exact congrArg some (h.at_ (j : Int)).up_eq
  · rw [List.getElem?_eq_none (by rw [nb_length]; have := h.size; omega), List.getElem?_eq_none (by rw [nb_length]; omega)]
theorem Turn.upS {s t : ByteArray} (h : Turn s t) : Lx.upS t = Lx.upS s := by unfold Lx.upS; rw [h.nb]
theorem Turn.foldEq {s t : ByteArray} (h : Turn s t) (n : ByteArray) : Lx.foldEq t n = Lx.foldEq s n := by
  unfold Lx.foldEq eqRun
  have e : (fun j => Lx.up (bt t j) == Lx.up (bt n j)) = (fun j => Lx.up (bt s j) == Lx.up (bt n j)) := by funext j; rw [(h.at_ j).up_eq]
  rw [e, h.size]

/-! ### the ten names -/
def isBig (c : Int) : Bool := decide (48 ≤ c ∧ c ≤ 57 ∨ 65 ≤ c ∧ c ≤ 90)
/-- The text n is the type's name at place j of the parser's list. -/
structure Named (n : ByteArray) (j : Int) : Prop where
  lo : 0 < n.size
  hi : n.size ≤ 9
  big : (Lx.nb n).all isBig = true
  first : isLetter (bt n 0) = true ∧ bt n 0 ≠ 82
  second : bt n 0 = 66 → 1 < n.size ∧ bt n 1 ≠ 82
  j0 : 0 ≤ j
  j1 : j < 12
  self : nmOf j = n
  fold : Lx.foldEq n n = true
  prior : (List.range j.toNat).all (fun k => !Lx.foldEq n (nmOf (k : Int))) = true
  plain : kw (Lx.upS n).toList = false
theorem named0 : Named ⟨#[66, 79, 79, 76]⟩ 0 := ⟨by decide, by decide, by decide, by decide, by decide, by decide, by decide, by kernel_rfl, by kernel_rfl, by kernel_rfl, by kernel_rfl⟩
theorem named1 : Named ⟨#[73, 78, 84, 54, 52]⟩ 1 := ⟨by decide, by decide, by decide, by decide, by decide, by decide, by decide, by kernel_rfl, by kernel_rfl, by kernel_rfl, by kernel_rfl⟩
theorem named2 : Named ⟨#[70, 76, 79, 65, 84, 51, 50]⟩ 2 := ⟨by decide, by decide, by decide, by decide, by decide, by decide, by decide, by kernel_rfl, by kernel_rfl, by kernel_rfl, by kernel_rfl⟩
theorem named3 : Named ⟨#[70, 76, 79, 65, 84, 54, 52]⟩ 3 := ⟨by decide, by decide, by decide, by decide, by decide, by decide, by decide, by kernel_rfl, by kernel_rfl, by kernel_rfl, by kernel_rfl⟩
theorem named4 : Named ⟨#[83, 84, 82, 73, 78, 71]⟩ 7 := ⟨by decide, by decide, by decide, by decide, by decide, by decide, by decide, by kernel_rfl, by kernel_rfl, by kernel_rfl, by kernel_rfl⟩
theorem named5 : Named ⟨#[66, 89, 84, 69, 83]⟩ 8 := ⟨by decide, by decide, by decide, by decide, by decide, by decide, by decide, by kernel_rfl, by kernel_rfl, by kernel_rfl, by kernel_rfl⟩
theorem named6 : Named ⟨#[68, 65, 84, 69]⟩ 4 := ⟨by decide, by decide, by decide, by decide, by decide, by decide, by decide, by kernel_rfl, by kernel_rfl, by kernel_rfl, by kernel_rfl⟩
theorem named7 : Named ⟨#[84, 73, 77, 69, 83, 84, 65, 77, 80]⟩ 5 := ⟨by decide, by decide, by decide, by decide, by decide, by decide, by decide, by kernel_rfl, by kernel_rfl, by kernel_rfl, by kernel_rfl⟩
theorem named8 : Named ⟨#[78, 85, 77, 69, 82, 73, 67]⟩ 6 := ⟨by decide, by decide, by decide, by decide, by decide, by decide, by decide, by kernel_rfl, by kernel_rfl, by kernel_rfl, by kernel_rfl⟩
theorem named9 : Named ⟨#[74, 83, 79, 78]⟩ 9 := ⟨by decide, by decide, by decide, by decide, by decide, by decide, by decide, by kernel_rfl, by kernel_rfl, by kernel_rfl, by kernel_rfl⟩
end Go.Proofs.YtjepdlmcombmcaaGreatDoor.Lx
