/- Tokens: what consumeToken and consumeFieldToken leave at any place of a text that is spoken of. Conditions: the lexer's state; no blank and no comment stands at its place. -/
import Derived.Test.YtjepdlmcombmcaaGreatDoorQb
import Derived.Test.YtjepdlmcombmcaaGreatDoorQc
namespace Go.Proofs.YtjepdlmcombmcaaGreatDoor.Lx
open Go.RowKit Go.Proofs.YtjepdlmcombmcaaGreatDoorW.PrintWords

theorem tokR_sign {s : ByteArray} {x : St} {aft : Bool} (hP : Plain s x.pos) (hm : isMark (bt s x.pos) = false) (hr : isR (bt s x.pos) = false) (hb : isB (bt s x.pos) = false) (hl : isLetter (bt s x.pos) = false) :
    tokR x (tok s aft x.pos) = tokR x (if isSign2 (bt s x.pos) (bt s (x.pos + 1)) then some (.other, x.pos + 2) else if isSign1 (bt s x.pos) then some (sgn (bt s x.pos), x.pos + 1) else none) := by
  rw [tok_plain hP, pfx3_none hm hr hb, hl]
  rfl
theorem sign2_no {c d : Int} (h : c ≠ 60 ∧ c ≠ 62 ∧ c ≠ 33 ∧ c ≠ 124 ∧ c ≠ 61 ∧ c ≠ 45 ∧ c ≠ 64) : isSign2 c d = false := by
  unfold isSign2
  rw [beqf h.1, beqf h.2.1, beqf h.2.2.1, beqf h.2.2.2.1, beqf h.2.2.2.2.1, beqf h.2.2.2.2.2.1, beqf h.2.2.2.2.2.2]
  rfl
section
variable {s : ByteArray} {x : St} {aft : Bool}
theorem at1 {c : Int} {k : Kd} (hp : x.pos < (s.size : Int)) (hc : bt s x.pos = c) (h1 : (c == 96) = false ∧ isDigit c = false ∧ (c == 46) = false ∧ (c == 64) = false) (h2 : isMark c = false ∧ isR c = false ∧ isB c = false ∧ isLetter c = false)
    (h3 : isSign2 c (bt s (x.pos + 1)) = false) (h4 : isSign1 c = true) (h5 : sgn c = k) (h6 : k ≠ .dot) : tokR x (tok s aft x.pos) = some (k, x.pos + 1, x.dot) := by
  subst hc
  rw [tokR_sign ⟨hp, h1.1, h1.2.1, h1.2.2.1, h1.2.2.2⟩ h2.1 h2.2.1 h2.2.2.1 h2.2.2.2, h3, h4, h5]
  simp [tokR, h6]
theorem at2 {c d : Int} (hp : x.pos < (s.size : Int)) (hc : bt s x.pos = c) (hd : bt s (x.pos + 1) = d) (h1 : (c == 96) = false ∧ isDigit c = false ∧ (c == 46) = false ∧ (c == 64 && isLetter d) = false) (h2 : isMark c = false ∧ isR c = false ∧ isB c = false ∧ isLetter c = false)
    (h3 : isSign2 c d = true) : tokR x (tok s aft x.pos) = some (.other, x.pos + 2, x.dot) := by
  have h4 := tok_sign (aft := aft) hp (by rw [hc]; exact h1.1) (by rw [hc]; exact h1.2.1) (by rw [hc, h1.2.2.1]; rfl) (by rw [hc, hd]; exact h1.2.2.2) (by rw [hc]; exact h2.1) (by rw [hc]; exact h2.2.1) (by rw [hc]; exact h2.2.2.1) (by rw [hc]; exact h2.2.2.2)
  rw [h4, hc, hd, h3]
  rfl
/-- The sign @ alone. -/
theorem at64 (hp : x.pos < (s.size : Int)) (hc : bt s x.pos = 64) (hd : bt s (x.pos + 1) ≠ 64) (hl : isLetter (bt s (x.pos + 1)) = false) : tokR x (tok s aft x.pos) = some (.other, x.pos + 1, x.dot) := by
  have h4 := tok_sign (aft := aft) hp (by rw [hc]; rfl) (by rw [hc]; rfl) (by rw [hc]; rfl) (by rw [hl, Bool.and_false]) (by rw [hc]; rfl) (by rw [hc]; rfl) (by rw [hc]; rfl) (by rw [hc]; rfl)
  rw [h4, hc]
  have h5 : isSign2 64 (bt s (x.pos + 1)) = false := by
    unfold isSign2
    rw [beqf hd]
    rfl
  rw [h5]
  rfl
theorem at46 (hp : x.pos < (s.size : Int)) (hc : bt s x.pos = 46) (h46 : (!aft && isDigit (bt s (x.pos + 1))) = false) : tokR x (tok s aft x.pos) = some (.dot, x.pos + 1, isFd (kd x.last.toList)) := by
  have h4 := tok_sign (aft := aft) hp (by rw [hc]; rfl) (by rw [hc]; rfl) (by rw [hc]; exact h46) (by rw [hc]; rfl) (by rw [hc]; rfl) (by rw [hc]; rfl) (by rw [hc]; rfl) (by rw [hc]; rfl)
  rw [h4, hc, sign2_no (by decide)]
  rfl
end

theorem tok_signs (w : World) (b fb : Nat) (x : St) (s : ByteArray) (h : Lx0 w b fb s x) (hT : Txt s) (hp0 : 0 ≤ x.pos) (hp : x.pos < (s.size : Int)) (hs : (s.size : Int) ≤ 5000) (hl : isLetter (bt s x.pos) = false) (hd : isDigit (bt s x.pos) = false) (hm : isMark (bt s x.pos) = false) (h96 : bt s x.pos ≠ 96) (h35 : bt s x.pos ≠ 35) (h46 : bt s x.pos ≠ 46) (h64 : bt s x.pos ≠ 64) (h32 : 33 ≤ bt s x.pos ∧ bt s x.pos ≤ 126) :
    Calls Tryz.prog 54 #[.pointer (some ⟨b, 0, none⟩), .bool false] w (Reads b fb x (tokR x (tok s (isFd (kd x.last.toList)) x.pos)) w) := by
  have hl' : ¬ (97 ≤ bt s x.pos ∧ bt s x.pos ≤ 122 ∨ 65 ≤ bt s x.pos ∧ bt s x.pos ≤ 90 ∨ bt s x.pos = 95) := of_decide_eq_false hl
  have hd' : ¬ (48 ≤ bt s x.pos ∧ bt s x.pos ≤ 57) := of_decide_eq_false hd
  obtain ⟨m1, m2⟩ := not_mark hm
  have m1' : bt s x.pos ≠ 34 := ne_of_beq_false m1
  have m2' : bt s x.pos ≠ 39 := ne_of_beq_false m2
  have hcs : bt s x.pos = 40 ∨ bt s x.pos = 41 ∨ bt s x.pos = 123 ∨ bt s x.pos = 125 ∨ bt s x.pos = 59 ∨ bt s x.pos = 44 ∨ bt s x.pos = 91 ∨ bt s x.pos = 93 ∨ bt s x.pos = 126 ∨ bt s x.pos = 42 ∨ bt s x.pos = 47 ∨ bt s x.pos = 38 ∨ bt s x.pos = 94 ∨ bt s x.pos = 37 ∨ bt s x.pos = 58 ∨ bt s x.pos = 63 ∨ bt s x.pos = 92 ∨ bt s x.pos = 36 ∨ bt s x.pos = 33 ∨ bt s x.pos = 60 ∨ bt s x.pos = 62 ∨ bt s x.pos = 43 ∨ bt s x.pos = 45 ∨ bt s x.pos = 61 ∨ bt s x.pos = 124 := by omega
  clear hl' hd' m1 m2 m1' m2' hm hl hd h96 h35 h46 h64 h32
  rcases hcs with hc | hc | hc | hc | hc | hc | hc | hc | hc | hc | hc | hc | hc | hc | hc | hc | hc | hc | hc | hc | hc | hc | hc | hc | hc
  · rw [at1 (k := .other) hp hc (by decide) (by decide) (sign2_no (by decide)) (by decide) (by decide) (by decide)]
    exact sgA w b fb x s h hs hp0 hp _ _ hc (by decide)
  · rw [at1 (k := .field) hp hc (by decide) (by decide) (sign2_no (by decide)) (by decide) (by decide) (by decide)]
    exact sgA w b fb x s h hs hp0 hp _ _ hc (by decide)
  · rw [at1 (k := .other) hp hc (by decide) (by decide) (sign2_no (by decide)) (by decide) (by decide) (by decide)]
    exact sgA w b fb x s h hs hp0 hp _ _ hc (by decide)
  · rw [at1 (k := .other) hp hc (by decide) (by decide) (sign2_no (by decide)) (by decide) (by decide) (by decide)]
    exact sgA w b fb x s h hs hp0 hp _ _ hc (by decide)
  · rw [at1 (k := .semi) hp hc (by decide) (by decide) (sign2_no (by decide)) (by decide) (by decide) (by decide)]
    exact sgA w b fb x s h hs hp0 hp _ _ hc (by decide)
  · rw [at1 (k := .other) hp hc (by decide) (by decide) (sign2_no (by decide)) (by decide) (by decide) (by decide)]
    exact sgA w b fb x s h hs hp0 hp _ _ hc (by decide)
  · rw [at1 (k := .other) hp hc (by decide) (by decide) (sign2_no (by decide)) (by decide) (by decide) (by decide)]
    exact sgA w b fb x s h hs hp0 hp _ _ hc (by decide)
  · rw [at1 (k := .field) hp hc (by decide) (by decide) (sign2_no (by decide)) (by decide) (by decide) (by decide)]
    exact sgA w b fb x s h hs hp0 hp _ _ hc (by decide)
  · rw [at1 (k := .other) hp hc (by decide) (by decide) (sign2_no (by decide)) (by decide) (by decide) (by decide)]
    exact sgA w b fb x s h hs hp0 hp _ _ hc (by decide)
  · rw [at1 (k := .other) hp hc (by decide) (by decide) (sign2_no (by decide)) (by decide) (by decide) (by decide)]
    exact sgA w b fb x s h hs hp0 hp _ _ hc (by decide)
  · rw [at1 (k := .other) hp hc (by decide) (by decide) (sign2_no (by decide)) (by decide) (by decide) (by decide)]
    exact sgA w b fb x s h hs hp0 hp _ _ hc (by decide)
  · rw [at1 (k := .other) hp hc (by decide) (by decide) (sign2_no (by decide)) (by decide) (by decide) (by decide)]
    exact sgA w b fb x s h hs hp0 hp _ _ hc (by decide)
  · rw [at1 (k := .other) hp hc (by decide) (by decide) (sign2_no (by decide)) (by decide) (by decide) (by decide)]
    exact sgA w b fb x s h hs hp0 hp _ _ hc (by decide)
  · rw [at1 (k := .other) hp hc (by decide) (by decide) (sign2_no (by decide)) (by decide) (by decide) (by decide)]
    exact sgA w b fb x s h hs hp0 hp _ _ hc (by decide)
  · rw [at1 (k := .other) hp hc (by decide) (by decide) (sign2_no (by decide)) (by decide) (by decide) (by decide)]
    exact sgA w b fb x s h hs hp0 hp _ _ hc (by decide)
  · rw [at1 (k := .other) hp hc (by decide) (by decide) (sign2_no (by decide)) (by decide) (by decide) (by decide)]
    exact sgA w b fb x s h hs hp0 hp _ _ hc (by decide)
  · rw [at1 (k := .other) hp hc (by decide) (by decide) (sign2_no (by decide)) (by decide) (by decide) (by decide)]
    exact sgA w b fb x s h hs hp0 hp _ _ hc (by decide)
  · rw [at1 (k := .other) hp hc (by decide) (by decide) (sign2_no (by decide)) (by decide) (by decide) (by decide)]
    exact sgA w b fb x s h hs hp0 hp _ _ hc (by decide)
  · have hd1 := hT.bang x.pos hp0 hc
    rw [at2 hp hc hd1 (by decide) (by decide) (by decide)]
    exact sgB w b fb x s h hs hp0 hp _ _ hc hd1 (by decide)
  · by_cases d60 : bt s (x.pos + 1) = 60
    · rw [at2 hp hc d60 (by decide) (by decide) (by decide)]
      exact sgB w b fb x s h hs hp0 hp _ _ hc d60 (by decide)
    by_cases d61 : bt s (x.pos + 1) = 61
    · rw [at2 hp hc d61 (by decide) (by decide) (by decide)]
      exact sgB w b fb x s h hs hp0 hp _ _ hc d61 (by decide)
    by_cases d62 : bt s (x.pos + 1) = 62
    · rw [at2 hp hc d62 (by decide) (by decide) (by decide)]
      exact sgB w b fb x s h hs hp0 hp _ _ hc d62 (by decide)
    have h3 : isSign2 60 (bt s (x.pos + 1)) = false := by unfold isSign2; simp [d60, d61, d62]
    rw [at1 (k := .other) hp hc (by decide) (by decide) h3 (by decide) (by decide) (by decide)]
    exact sgN w b fb x s h hs hp0 hp _ hc (by simp [d60, d61, d62])
  · by_cases d62 : bt s (x.pos + 1) = 62
    · rw [at2 hp hc d62 (by decide) (by decide) (by decide)]
      exact sgB w b fb x s h hs hp0 hp _ _ hc d62 (by decide)
    by_cases d61 : bt s (x.pos + 1) = 61
    · rw [at2 hp hc d61 (by decide) (by decide) (by decide)]
      exact sgB w b fb x s h hs hp0 hp _ _ hc d61 (by decide)
    have h3 : isSign2 62 (bt s (x.pos + 1)) = false := by unfold isSign2; simp [d62, d61]
    rw [at1 (k := .other) hp hc (by decide) (by decide) h3 (by decide) (by decide) (by decide)]
    exact sgN w b fb x s h hs hp0 hp _ hc (by simp [d62, d61])
  · have hne : bt s (x.pos + 1) ≠ 61 := hT.eqs x.pos hp0 (by omega)
    have h3 : isSign2 43 (bt s (x.pos + 1)) = false := by unfold isSign2; simp
    rw [at1 (k := .other) hp hc (by decide) (by decide) h3 (by decide) (by decide) (by decide)]
    exact sgN w b fb x s h hs hp0 hp _ hc (by simp [hne])
  · have hne : bt s (x.pos + 1) ≠ 61 := hT.eqs x.pos hp0 (by omega)
    by_cases d62 : bt s (x.pos + 1) = 62
    · rw [at2 hp hc d62 (by decide) (by decide) (by decide)]
      exact sgB w b fb x s h hs hp0 hp _ _ hc d62 (by decide)
    have h3 : isSign2 45 (bt s (x.pos + 1)) = false := by unfold isSign2; simp [d62]
    rw [at1 (k := .other) hp hc (by decide) (by decide) h3 (by decide) (by decide) (by decide)]
    exact sgN w b fb x s h hs hp0 hp _ hc (by simp [hne, d62])
  · by_cases d62 : bt s (x.pos + 1) = 62
    · rw [at2 hp hc d62 (by decide) (by decide) (by decide)]
      exact sgB w b fb x s h hs hp0 hp _ _ hc d62 (by decide)
    have h3 : isSign2 61 (bt s (x.pos + 1)) = false := by unfold isSign2; simp [d62]
    rw [at1 (k := .other) hp hc (by decide) (by decide) h3 (by decide) (by decide) (by decide)]
    exact sgN w b fb x s h hs hp0 hp _ hc (by simp [d62])
  · by_cases d62 : bt s (x.pos + 1) = 62
    · rw [at2 hp hc d62 (by decide) (by decide) (by decide)]
      exact sgB w b fb x s h hs hp0 hp _ _ hc d62 (by decide)
    by_cases d124 : bt s (x.pos + 1) = 124
    · rw [at2 hp hc d124 (by decide) (by decide) (by decide)]
      exact sgB w b fb x s h hs hp0 hp _ _ hc d124 (by decide)
    have h3 : isSign2 124 (bt s (x.pos + 1)) = false := by unfold isSign2; simp [d62, d124]
    rw [at1 (k := .other) hp hc (by decide) (by decide) h3 (by decide) (by decide) (by decide)]
    exact sgN w b fb x s h hs hp0 hp _ hc (by simp [d62, d124])

theorem tok_c (w : World) (b fb : Nat) (x : St) (s : ByteArray) (h : Lx0 w b fb s x) (hT : Txt s) (hp0 : 0 ≤ x.pos) (hp1 : x.pos ≤ (s.size : Int)) (h35 : bt s x.pos ≠ 35) (hsp : isSp (bt s x.pos) = false) :
    Calls Tryz.prog 54 #[.pointer (some ⟨b, 0, none⟩), .bool false] w (Reads b fb x (tokR x (tok s (isFd (kd x.last.toList)) x.pos)) w) := by
  have hs : (s.size : Int) ≤ 5000 := by have := hT.size; omega
  by_cases hp : x.pos < (s.size : Int)
  · have hr := hT.rng x.pos hp0 hp
    have hsp' : ¬ (bt s x.pos = 9 ∨ bt s x.pos = 10 ∨ bt s x.pos = 11 ∨ bt s x.pos = 12 ∨ bt s x.pos = 13 ∨ bt s x.pos = 32) := of_decide_eq_false hsp
    cases hd : isDigit (bt s x.pos) with
    | true =>
      rw [tokR_dig hp hd]
      have hd' : 48 ≤ bt s x.pos ∧ bt s x.pos ≤ 57 := of_decide_eq_true hd
      have hcs : bt s x.pos = 48 ∨ bt s x.pos = 49 ∨ bt s x.pos = 50 ∨ bt s x.pos = 51 ∨ bt s x.pos = 52 ∨ bt s x.pos = 53 ∨ bt s x.pos = 54 ∨ bt s x.pos = 55 ∨ bt s x.pos = 56 ∨ bt s x.pos = 57 := by omega
      rcases hcs with hc | hc | hc | hc | hc | hc | hc | hc | hc | hc
      · exact dgA w b fb x s h hs hp0 hp _ hc (by decide)
      · exact dgA w b fb x s h hs hp0 hp _ hc (by decide)
      · exact dgA w b fb x s h hs hp0 hp _ hc (by decide)
      · exact dgA w b fb x s h hs hp0 hp _ hc (by decide)
      · exact dgA w b fb x s h hs hp0 hp _ hc (by decide)
      · exact dgA w b fb x s h hs hp0 hp _ hc (by decide)
      · exact dgA w b fb x s h hs hp0 hp _ hc (by decide)
      · exact dgA w b fb x s h hs hp0 hp _ hc (by decide)
      · exact dgA w b fb x s h hs hp0 hp _ hc (by decide)
      · exact dgA w b fb x s h hs hp0 hp _ hc (by decide)
    | false =>
    cases hl : isLetter (bt s x.pos) with
    | true =>
      have hP := plain_letter hp hl
      have hl' : 97 ≤ bt s x.pos ∧ bt s x.pos ≤ 122 ∨ 65 ≤ bt s x.pos ∧ bt s x.pos ≤ 90 ∨ bt s x.pos = 95 := of_decide_eq_true hl
      by_cases hB : bt s x.pos = 66 ∨ bt s x.pos = 98 ∨ bt s x.pos = 82 ∨ bt s x.pos = 114
      · rcases hB with hc | hc | hc | hc
        · have hpf := pfx_B (s := s) (p := x.pos) (by rw [hc]; rfl) (by rw [hc]; rfl) (by rw [hc]; rfl)
          cases hmk : isMark (bt s (x.pos + 1)) with
          | true =>
            rw [hmk, if_pos rfl] at hpf
            rw [tokR_pfx hP hpf]
            exact preB w b fb x s h hs hp0 hp hT _ hc (by decide) _ ⟨fun _ => rfl⟩ ⟨fun hx => by rw [mark_not_R hmk] at hx; cases hx⟩ ⟨.inl hmk⟩
          | false =>
            rw [hmk, if_neg (by decide)] at hpf
            cases hx : isR (bt s (x.pos + 1)) with
            | true =>
              rw [hx, if_pos rfl] at hpf
              cases hmk2 : isMark (bt s (x.pos + 2)) with
              | true =>
                rw [hmk2, if_pos rfl] at hpf
                rw [tokR_pfx hP hpf]
                exact preB w b fb x s h hs hp0 hp hT _ hc (by decide) _ ⟨fun hh => by rw [hmk] at hh; cases hh⟩ ⟨fun _ => rfl⟩ ⟨.inr ⟨hx, hmk2⟩⟩
              | false =>
                rw [hmk2, if_neg (by decide)] at hpf
                rw [tokR_word hP hpf hl]
                exact wrdB w b fb x s h hs hp0 hp _ hc (by decide) ⟨hmk⟩ ⟨fun _ => hmk2⟩
            | false =>
              rw [hx, if_neg (by decide)] at hpf
              rw [tokR_word hP hpf hl]
              exact wrdB w b fb x s h hs hp0 hp _ hc (by decide) ⟨hmk⟩ ⟨fun hh => by rw [hx] at hh; cases hh⟩
        · have hpf := pfx_B (s := s) (p := x.pos) (by rw [hc]; rfl) (by rw [hc]; rfl) (by rw [hc]; rfl)
          cases hmk : isMark (bt s (x.pos + 1)) with
          | true =>
            rw [hmk, if_pos rfl] at hpf
            rw [tokR_pfx hP hpf]
            exact preB w b fb x s h hs hp0 hp hT _ hc (by decide) _ ⟨fun _ => rfl⟩ ⟨fun hx => by rw [mark_not_R hmk] at hx; cases hx⟩ ⟨.inl hmk⟩
          | false =>
            rw [hmk, if_neg (by decide)] at hpf
            cases hx : isR (bt s (x.pos + 1)) with
            | true =>
              rw [hx, if_pos rfl] at hpf
              cases hmk2 : isMark (bt s (x.pos + 2)) with
              | true =>
                rw [hmk2, if_pos rfl] at hpf
                rw [tokR_pfx hP hpf]
                exact preB w b fb x s h hs hp0 hp hT _ hc (by decide) _ ⟨fun hh => by rw [hmk] at hh; cases hh⟩ ⟨fun _ => rfl⟩ ⟨.inr ⟨hx, hmk2⟩⟩
              | false =>
                rw [hmk2, if_neg (by decide)] at hpf
                rw [tokR_word hP hpf hl]
                exact wrdB w b fb x s h hs hp0 hp _ hc (by decide) ⟨hmk⟩ ⟨fun _ => hmk2⟩
            | false =>
              rw [hx, if_neg (by decide)] at hpf
              rw [tokR_word hP hpf hl]
              exact wrdB w b fb x s h hs hp0 hp _ hc (by decide) ⟨hmk⟩ ⟨fun hh => by rw [hx] at hh; cases hh⟩
        · have hpf := pfx_R (s := s) (p := x.pos) (by rw [hc]; rfl) (by rw [hc]; rfl)
          cases hmk : isMark (bt s (x.pos + 1)) with
          | true =>
            rw [hmk, if_pos rfl] at hpf
            rw [tokR_pfx hP hpf]
            exact preR w b fb x s h hs hp0 hp hT _ hc (by decide) _ ⟨fun _ => rfl⟩ ⟨fun hx => by rw [mark_not_B hmk] at hx; cases hx⟩ ⟨.inl hmk⟩
          | false =>
            rw [hmk, if_neg (by decide)] at hpf
            cases hx : isB (bt s (x.pos + 1)) with
            | true =>
              rw [hx, if_pos rfl] at hpf
              cases hmk2 : isMark (bt s (x.pos + 2)) with
              | true =>
                rw [hmk2, if_pos rfl] at hpf
                rw [tokR_pfx hP hpf]
                exact preR w b fb x s h hs hp0 hp hT _ hc (by decide) _ ⟨fun hh => by rw [hmk] at hh; cases hh⟩ ⟨fun _ => rfl⟩ ⟨.inr ⟨hx, hmk2⟩⟩
              | false =>
                rw [hmk2, if_neg (by decide)] at hpf
                rw [tokR_word hP hpf hl]
                exact wrdR w b fb x s h hs hp0 hp _ hc (by decide) ⟨hmk⟩ ⟨fun _ => hmk2⟩
            | false =>
              rw [hx, if_neg (by decide)] at hpf
              rw [tokR_word hP hpf hl]
              exact wrdR w b fb x s h hs hp0 hp _ hc (by decide) ⟨hmk⟩ ⟨fun hh => by rw [hx] at hh; cases hh⟩
        · have hpf := pfx_R (s := s) (p := x.pos) (by rw [hc]; rfl) (by rw [hc]; rfl)
          cases hmk : isMark (bt s (x.pos + 1)) with
          | true =>
            rw [hmk, if_pos rfl] at hpf
            rw [tokR_pfx hP hpf]
            exact preR w b fb x s h hs hp0 hp hT _ hc (by decide) _ ⟨fun _ => rfl⟩ ⟨fun hx => by rw [mark_not_B hmk] at hx; cases hx⟩ ⟨.inl hmk⟩
          | false =>
            rw [hmk, if_neg (by decide)] at hpf
            cases hx : isB (bt s (x.pos + 1)) with
            | true =>
              rw [hx, if_pos rfl] at hpf
              cases hmk2 : isMark (bt s (x.pos + 2)) with
              | true =>
                rw [hmk2, if_pos rfl] at hpf
                rw [tokR_pfx hP hpf]
                exact preR w b fb x s h hs hp0 hp hT _ hc (by decide) _ ⟨fun hh => by rw [hmk] at hh; cases hh⟩ ⟨fun _ => rfl⟩ ⟨.inr ⟨hx, hmk2⟩⟩
              | false =>
                rw [hmk2, if_neg (by decide)] at hpf
                rw [tokR_word hP hpf hl]
                exact wrdR w b fb x s h hs hp0 hp _ hc (by decide) ⟨hmk⟩ ⟨fun _ => hmk2⟩
            | false =>
              rw [hx, if_neg (by decide)] at hpf
              rw [tokR_word hP hpf hl]
              exact wrdR w b fb x s h hs hp0 hp _ hc (by decide) ⟨hmk⟩ ⟨fun hh => by rw [hx] at hh; cases hh⟩
      · have hpf : pfx s 3 x.pos false false = none := pfx3_none (by unfold isMark; rw [beqf (by omega), beqf (by omega)]; rfl) (by unfold isR; rw [beqf (by omega), beqf (by omega)]; rfl) (by unfold isB; rw [beqf (by omega), beqf (by omega)]; rfl)
        rw [tokR_word hP hpf hl]
        refine (tok_word1 w b fb x s h.l h.isF hp0 hp (by omega) hl ⟨by omega, by omega, by omega, by omega⟩).mono ?_
        rintro e w' ⟨rfl, hU, hL⟩
        refine ⟨rfl, hU, _, _, x.base, ?_, hL⟩
        unfold wkind
        split
        · rename_i hk
          exact kd_kw _ hk
        · exact kd_lit _ rfl
    | false =>
    by_cases h96 : bt s x.pos = 96
    · rw [tokR_tick hp h96]
      exact qid w b fb x s h hs hp0 hp hT h96
    by_cases h34 : bt s x.pos = 34
    · rw [tokR_pfx (q := x.pos) (raw := false) (bytes := false) ⟨hp, by rw [h34]; rfl, by rw [h34]; rfl, by rw [h34]; rfl, by rw [h34]; rfl⟩ (by simp only [pfx]; rw [h34]; rfl)]
      exact preM w b fb x s h hs hp0 hp hT _ h34 (.inl rfl) _ ⟨rfl⟩
    by_cases h39 : bt s x.pos = 39
    · rw [tokR_pfx (q := x.pos) (raw := false) (bytes := false) ⟨hp, by rw [h39]; rfl, by rw [h39]; rfl, by rw [h39]; rfl, by rw [h39]; rfl⟩ (by simp only [pfx]; rw [h39]; rfl)]
      exact preM w b fb x s h hs hp0 hp hT _ h39 (.inr rfl) _ ⟨rfl⟩
    by_cases h46 : bt s x.pos = 46
    · cases hf : isFd (kd x.last.toList) with
      | true =>
        rw [at46 hp h46 (by rfl), hf]
        exact dot_f w b fb x s h hs hp0 hp h46 hf
      | false =>
        by_cases hin : x.pos + 1 < (s.size : Int)
        · cases hdg : isDigit (bt s (x.pos + 1)) with
          | true =>
            rw [tokR_dotnum hp h46 hdg]
            exact dot_d w b fb x s h hs hp0 hp h46 hf hin hdg
          | false =>
            rw [at46 hp h46 (by rw [hdg]; rfl), hf]
            exact dot_n w b fb x s h hs hp0 hp h46 hf hin hdg
        · rw [at46 hp h46 (by rw [bt_far s (x.pos + 1) (by omega)]; rfl), hf]
          exact dot_e w b fb x s h hs hp0 hp h46 hf (by omega)
    by_cases h64 : bt s x.pos = 64
    · by_cases hd64 : bt s (x.pos + 1) = 64
      · rw [at2 hp h64 hd64 (by decide) (by decide) (by decide)]
        exact sgB w b fb x s h hs hp0 hp _ _ h64 hd64 (by decide)
      · cases hl2 : isLetter (bt s (x.pos + 1)) with
        | true =>
          rw [tok_par hp h64 hl2]
          exact par w b fb x s h hs hp0 hp h64 hl2
        | false =>
          rw [at64 hp h64 hd64 hl2]
          by_cases hin : x.pos + 1 < (s.size : Int)
          · exact sg64_n w b fb x s h hs hp0 hp h64 hd64 (.inl ⟨hin, hl2⟩)
          · exact sg64_n w b fb x s h hs hp0 hp h64 hd64 (.inr (by omega))
    exact tok_signs w b fb x s h hT hp0 hp hs hl hd (by unfold isMark; rw [beqf h34, beqf h39]; rfl) h96 h35 h46 h64 ⟨by omega, by omega⟩
  · have he : x.pos = (s.size : Int) := by omega
    have ht : tokR x (tok s (isFd (kd x.last.toList)) x.pos) = some (.eof, x.pos, x.dot) := by
      unfold tok
      rw [if_pos (by omega)]
      rfl
    rw [ht]
    refine (tok_eof w b fb x s h.l h.isF he).mono ?_
    rintro e w' ⟨rfl, hU, hL⟩
    exact ⟨rfl, hU, ⟨#[60, 101, 111, 102, 62]⟩, x.txt, x.base, kd_lit _ rfl, hL⟩
end Go.Proofs.YtjepdlmcombmcaaGreatDoor.Lx
