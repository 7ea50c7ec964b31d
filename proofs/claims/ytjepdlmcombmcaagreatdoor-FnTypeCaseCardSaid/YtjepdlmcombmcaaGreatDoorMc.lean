/- A turned name parses as its type, an array of one as the array. Plain law over the lexer's steps. -/
import Derived.Test.YtjepdlmcombmcaaGreatDoorMb
namespace Go.Proofs.YtjepdlmcombmcaaGreatDoor.Lx
open Go.RowKit Go.Proofs.YtjepdlmcombmcaaGreatDoorW.PrintWords

theorem dense_of {s : ByteArray} (h : ∀ i : Int, 0 ≤ i → i < (s.size : Int) → 48 ≤ bt s i ∧ bt s i < 128) : Dense s := by
  intro i h0 h1
  have := h i h0 h1
  exact ⟨this.2, decide_eq_false (by omega), by omega, by omega, by omega⟩
section
variable {n t : ByteArray} {j : Int}
theorem Named.bytes (hN : Named n j) (i : Int) (h0 : 0 ≤ i) (h1 : i < (n.size : Int)) : 48 ≤ bt n i ∧ bt n i ≤ 57 ∨ 65 ≤ bt n i ∧ bt n i ≤ 90 := by
  have h := List.all_eq_true.1 hN.big (bt n i) (List.mem_of_getElem? (nb_get n i h0 h1))
  exact of_decide_eq_true h
theorem Named.turned (hN : Named n j) (hT : Turn n t) (i : Int) (h0 : 0 ≤ i) (h1 : i < (t.size : Int)) : isPart (bt t i) = true ∧ 48 ≤ bt t i ∧ bt t i < 128 := by
  have hb := hN.bytes i h0 (by have := hT.size; omega)
  have ht := hT.at_ i
  unfold TurnB at ht
  refine ⟨decide_eq_true (by omega), by omega, by omega⟩
theorem Named.kind (hN : Named n j) (hT : Turn n t) : wkind t = ⟨#[60, 105, 100, 101, 110, 116, 62]⟩ := by
  unfold wkind
  rw [hT.upS, hN.plain]
  rfl
theorem Named.txt (hN : Named n j) (hT : Turn n t) (x : ByteArray) : wtxt t x = t := by
  unfold wtxt
  rw [hT.upS, hN.plain]
  rfl
theorem Named.firstTy (hN : Named n j) (hT : Turn n t) : FirstTy t j := by
  refine ⟨hN.j0, hN.j1, ?_, fun k h0 h1 => ?_⟩
  · rw [hN.self, hT.foldEq]
    exact hN.fold
  · rw [hT.foldEq]
    have h := List.all_eq_true.1 hN.prior k.toNat (List.mem_range.2 (by omega))
    have e : ((k.toNat : Nat) : Int) = k := by omega
    rw [e] at h
    simpa using h
theorem Named.letter (hN : Named n j) (hT : Turn n t) : isLetter (bt t 0) = true ∧ bt t 0 ≠ 82 ∧ bt t 0 ≠ 114 := by
  have h1 := hN.first
  have h2 := hN.bytes 0 (by omega) (by have := hN.lo; omega)
  have ht := hT.at_ 0
  have h3 : 97 ≤ bt n 0 ∧ bt n 0 ≤ 122 ∨ 65 ≤ bt n 0 ∧ bt n 0 ≤ 90 ∨ bt n 0 = 95 := of_decide_eq_true h1.1
  have h4 := h1.2
  unfold TurnB at ht
  refine ⟨decide_eq_true (by omega), by omega, by omega⟩
theorem Named.after (hN : Named n j) (hT : Turn n t) (h : bt t 0 = 66 ∨ bt t 0 = 98) : 1 < (t.size : Int) ∧ bt t 1 ≠ 82 ∧ bt t 1 ≠ 114 ∧ bt t 1 ≠ 34 ∧ bt t 1 ≠ 39 := by
  have ht := hT.at_ 0
  have ht1 := hT.at_ 1
  have hb := hN.bytes 0 (by omega) (by have := hN.lo; omega)
  have h66 : bt n 0 = 66 := by unfold TurnB at ht; omega
  have h2 := hN.second h66
  have hs := hT.size
  have hb1 := hN.bytes 1 (by omega) (by omega)
  have h3 := h2.2
  unfold TurnB at ht1
  omega
/-- The step at a turned name that stands in s from p on. -/
theorem Named.step (hN : Named n j) (hT : Turn n t) {s : ByteArray} (hA : Dense s) (hs : (s.size : Int) ≤ 1000000) {p : Int} (h0 : 0 ≤ p) (hp : p + t.size ≤ (s.size : Int))
    (hat : ∀ i : Int, 0 ≤ i → i < (t.size : Int) → bt s (p + i) = bt t i) (hstop : p + t.size = (s.size : Int) ∨ isPart (bt s (p + t.size)) = false) :
    Step s p ⟨#[60, 105, 100, 101, 110, 116, 62]⟩ t (p + t.size) := by
  have hsz := hT.size
  have hlo := hN.lo
  have e0 := hat 0 (Int.le_refl _) (by omega)
  rw [Int.add_zero] at e0
  have hr : run isPart s p = p + t.size := run_to hp hstop _ p (Nat.le_refl _) (by omega) (fun k h1 h2 => by
    have e := hat (k - p) (by omega) (by omega)
    have e2 : p + (k - p) = k := by omega
    rw [e2] at e
    rw [e]
    exact (hN.turned hT (k - p) (by omega) (by omega)).1)
  have hw : wordOf s p (p + t.size) = t := by
    unfold wordOf
    refine eq_of_bt ?_ fun i hi => ?_
    · have := size_extract s p (p + t.size) h0 (by omega) hp
      omega
    · have hz := size_extract s p (p + t.size) h0 (by omega) hp
      rw [bt_extract s p (p + t.size) (i : Int) h0 (by omega) (by omega) hp]
      exact hat i (by omega) (by omega)
  have hl := hN.letter hT
  have h := step_word hA hs h0 (by omega) (by rw [e0]; exact hl.1) (by rw [e0]; exact hl.2) (by
    rw [e0]
    intro hb
    have h1 := hN.after hT hb
    rw [hat 1 (by omega) h1.1]
    exact ⟨by omega, h1.2⟩)
  rw [hr, hw, hN.kind hT, hN.txt hT] at h
  exact h
theorem Named.parses (hN : Named n j) (hT : Turn n t) : Parses t false n := by
  have hA : Dense t := dense_of fun i h0 h1 => (hN.turned hT i h0 h1).2
  have hi := hN.hi
  have hsz := hT.size
  have h1 := hN.step hT hA (by omega) (p := 0) (Int.le_refl _) (by omega) (fun i _ _ => by rw [Int.zero_add]) (.inl (by omega))
  rw [Int.zero_add] at h1
  have h := parses_simple h1 (step_eof hA (by omega)) (by omega) (hN.firstTy hT)
  rw [hN.self] at h
  exact h
def arr6 : ByteArray := ⟨#[97, 114, 114, 97, 121, 60]⟩
def arrayOf (t : ByteArray) : ByteArray := (arr6 ++ t) ++ ⟨#[62]⟩
theorem arrayOf_size (t : ByteArray) : (arrayOf t).size = 7 + t.size := by
  unfold arrayOf
  rw [ByteArray.size_append, ByteArray.size_append]
  show 6 + t.size + 1 = 7 + t.size
  omega
theorem arrayOf_lo (t : ByteArray) (i : Int) (h0 : 0 ≤ i) (h1 : i < 6) : bt (arrayOf t) i = bt arr6 i := by
  have e : (arr6.size : Int) = 6 := rfl
  have e2 : ((arr6 ++ t).size : Int) = 6 + t.size := by rw [ByteArray.size_append]; show ((6 + t.size : Nat) : Int) = _; omega
  unfold arrayOf
  rw [bt_app_l _ _ i h0 (by omega), bt_app_l _ _ i h0 (by omega)]
theorem arrayOf_mid (t : ByteArray) (i : Int) (h0 : 0 ≤ i) (h1 : i < (t.size : Int)) : bt (arrayOf t) (6 + i) = bt t i := by
  have e : (arr6.size : Int) = 6 := rfl
  have e2 : ((arr6 ++ t).size : Int) = 6 + t.size := by rw [ByteArray.size_append]; show ((6 + t.size : Nat) : Int) = _; omega
  unfold arrayOf
  rw [bt_app_l _ _ (6 + i) (by omega) (by omega), bt_app_r _ _ (6 + i) (by omega) (by omega), e]
  congr 1
  omega
theorem arrayOf_end (t : ByteArray) : bt (arrayOf t) (6 + t.size) = 62 := by
  have e2 : ((arr6 ++ t).size : Int) = 6 + t.size := by rw [ByteArray.size_append]; show ((6 + t.size : Nat) : Int) = _; omega
  have e3 : ((⟨#[62]⟩ : ByteArray).size : Int) = 1 := rfl
  unfold arrayOf
  rw [bt_app_r _ _ (6 + t.size) (by omega) (by omega), e2, Int.sub_self]
  rfl
theorem Named.parsesA (hN : Named n j) (hT : Turn n t) : Parses (arrayOf t) true n := by
  have hz := arrayOf_size t
  have hi := hN.hi
  have hlo := hN.lo
  have hsz := hT.size
  have hb6 : ∀ i : Int, 0 ≤ i → i < 6 → 48 ≤ bt arr6 i ∧ bt arr6 i < 128 := by
    intro i h0 h1
    have : i = 0 ∨ i = 1 ∨ i = 2 ∨ i = 3 ∨ i = 4 ∨ i = 5 := by omega
    rcases this with rfl | rfl | rfl | rfl | rfl | rfl <;> decide
  have hA : Dense (arrayOf t) := dense_of fun i h0 h1 => by
    by_cases h6 : i < 6
    · rw [arrayOf_lo t i h0 h6]
      exact hb6 i h0 h6
    · by_cases hn : i < 6 + (t.size : Int)
      · have e : i = 6 + (i - 6) := by omega
        rw [e, arrayOf_mid t (i - 6) (by omega) (by omega)]
        exact (hN.turned hT (i - 6) (by omega) (by omega)).2
      · have e : i = 6 + (t.size : Int) := by omega
        rw [e, arrayOf_end]
        decide
  have hs : ((arrayOf t).size : Int) ≤ 1000000 := by omega
  have c0 : bt (arrayOf t) 0 = 97 := (arrayOf_lo t 0 (by omega) (by omega)).trans rfl
  have c5 : bt (arrayOf t) 5 = 60 := (arrayOf_lo t 5 (by omega) (by omega)).trans rfl
  have hr : run isPart (arrayOf t) 0 = 5 := run_to (by omega) (.inr (by rw [c5]; rfl)) _ 0 (Nat.le_refl _) (by omega) (fun k h1 h2 => by
    rw [arrayOf_lo t k h1 (by omega)]
    have : k = 0 ∨ k = 1 ∨ k = 2 ∨ k = 3 ∨ k = 4 := by omega
    rcases this with rfl | rfl | rfl | rfl | rfl <;> rfl)
  have hw : wordOf (arrayOf t) 0 5 = ⟨#[97, 114, 114, 97, 121]⟩ := by
    unfold wordOf
    refine eq_of_bt ?_ fun i hi => ?_
    · have := size_extract (arrayOf t) 0 5 (by omega) (by omega) (by omega)
      have e : (⟨#[97, 114, 114, 97, 121]⟩ : ByteArray).size = 5 := rfl
      omega
    · have hz := size_extract (arrayOf t) 0 5 (by omega) (by omega) (by omega)
      rw [bt_extract (arrayOf t) 0 5 (i : Int) (by omega) (by omega) (by omega) (by omega), Int.zero_add, arrayOf_lo t (i : Int) (by omega) (by omega)]
      have : i = 0 ∨ i = 1 ∨ i = 2 ∨ i = 3 ∨ i = 4 := by omega
      rcases this with rfl | rfl | rfl | rfl | rfl <;> rfl
  have s0 := step_word hA hs (p := 0) (Int.le_refl _) (by omega) (by rw [c0]; rfl) (by rw [c0]; decide) (by rw [c0]; intro h; omega)
  rw [hr, hw] at s0
  have k0 : wkind ⟨#[97, 114, 114, 97, 121]⟩ = ⟨#[65, 82, 82, 65, 89]⟩ := by kernel_rfl
  rw [k0] at s0
  have hl := hN.letter hT
  have c6 : bt (arrayOf t) (5 + 1) = bt t 0 := arrayOf_mid t 0 (by omega) (by omega)
  have hl2 : 97 ≤ bt t 0 ∧ bt t 0 ≤ 122 ∨ 65 ≤ bt t 0 ∧ bt t 0 ≤ 90 ∨ bt t 0 = 95 := of_decide_eq_true hl.1
  have s1 := step_lt hA hs (p := 5) (by omega) (by omega) c5 (by rw [c6]; omega)
  have e51 : (5 : Int) + 1 = 6 := by decide
  rw [e51] at s1
  have s2 := hN.step hT hA hs (p := 6) (by omega) (by omega) (fun i h0 h1 => arrayOf_mid t i h0 h1) (.inr (by
    rw [arrayOf_end]
    rfl))
  have s3 := step_gt hA hs (p := 6 + (t.size : Int)) (by omega) (by omega) (arrayOf_end t)
  have s4 := step_eof hA hs
  have e4 : 6 + (t.size : Int) + 1 = ((arrayOf t).size : Int) := by omega
  rw [e4] at s3
  have h := parses_array s0 s1 s2 s3 s4 (by omega) (hN.firstTy hT)
  rw [hN.self] at h
  exact h
end
end Go.Proofs.YtjepdlmcombmcaaGreatDoor.Lx
