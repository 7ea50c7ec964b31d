/- The next token at a dense text: the steps at words, at the signs < and >, at the end. Conditions: the bytes of the text. -/
import Derived.Test.YtjepdlmcombmcaaGreatDoorLg
import Derived.Test.YtjepdlmcombmcaaGreatDoorLh
import Derived.Test.YtjepdlmcombmcaaGreatDoorLq
namespace Go.Proofs.YtjepdlmcombmcaaGreatDoor.Lx
open Go.RowKit Go.Proofs.YtjepdlmcombmcaaGreatDoorW.PrintWords

set_option maxRecDepth 100000 in
/-- The sign > with no sign behind it that would make a greater one. -/
theorem tok_gt (w : World) (b fb : Nat) (x : St) (s : ByteArray) (hL : IsL w b fb x) (hF : IsF w fb s) (hp0 : 0 ≤ x.pos) (hp : x.pos < (s.size : Int)) (hs : (s.size : Int) ≤ 1000000)
    (hc : bt s x.pos = 62) (h1 : (decide (x.pos + 1 < (s.size : Int)) && (bt s (x.pos + 1) == 62)) = false) (h2 : (decide (x.pos + 1 < (s.size : Int)) && (bt s (x.pos + 1) == 61)) = false) :
    Calls Tryz.prog 54 #[.pointer (some ⟨b, 0, none⟩), .bool false] w fun e w' => e = .returned (.tuple #[]) ∧ Ups b w w' ∧ IsL w' b fb { x with kind := ⟨#[62]⟩, pos := x.pos + 1 } := by
  have hat := hL.at_ hF
  have hd : decide ((s.size : Int) ≤ x.pos) = false := decide_eq_false (by omega)
  have Z1 := hL.free 1
  have H1 := hL.c1
  go_enter Tryz.func54, Tryz.ntmps54
  go_wp2_with (first
    | (go_at_call 69; (with_reducible refine (eof_c b fb s _ _ hat).mono ?_); rintro e w' ⟨rfl, ⟨n1, rfl⟩⟩)
    | (go_at_call 77; (with_reducible refine (peek_c b fb s _ 0 _ (hat.drewN _) hp0 (by omega) (by omega) (by omega) (by omega)).mono ?_); rintro e w' ⟨rfl, ⟨n2, rfl⟩⟩)
    | (go_at_call 73; (with_reducible refine (peekIs_c b fb s _ 1 _ _ (hat.drewN _) hp0 (by omega) (by omega) (by omega)).mono ?_); rintro e w' ⟨rfl, ⟨n3, rfl⟩⟩)
    | (go_at_call 78; (with_reducible refine (skip_c b fb s _ _ (hat.drewN _) ((hL.drewN _).free 9) hp0 (by omega) hp).mono ?_); rintro e w' ⟨rfl, ⟨n4, rfl⟩⟩))
  (try simp only [Exit.inBlock, Exit.then]); refine bodyPost_ret (results_none rfl _ _ _) rfl ?_
  exact ⟨rfl, by repeat (first | exact Ups.refl _ _ | apply Ups.set | apply Ups.drewN), ((hL.drewN _).set9 _).set1 _⟩

section
variable {s : ByteArray}
theorem step_of {p q : Int} {K T : ByteArray} (hA : Dense s) (hs : (s.size : Int) ≤ 1000000) (h0 : 0 ≤ p) (hpq : p ≤ q) (hq : q ≤ (s.size : Int))
    (hTok : ∀ (W : World) (b fb : Nat) (y : St), y.pos = p → y.txt = ⟨#[]⟩ → IsL W b fb y → IsF W fb s → Calls Tryz.prog 54 #[.pointer (some ⟨b, 0, none⟩), .bool false] W fun e w' => e = .returned (.tuple #[]) ∧ Ups b W w' ∧ IsL w' b fb { y with kind := K, txt := T, pos := q }) :
    Step s p K T q := by
  intro W b fb x hL hF hp hd
  refine (next_dense W b fb x s K T q hL hF hA (by omega) (by omega) hs hd (by omega) hq (fun W' sp hL' hF' => hTok W' b fb _ hp rfl hL' hF')).mono ?_
  rintro e w' ⟨rfl, hU, sp, hy⟩
  refine ⟨rfl, hU, _, ?_, hy⟩
  exact ⟨rfl, rfl, rfl, hd, rfl⟩
theorem step_eof (hA : Dense s) (hs : (s.size : Int) ≤ 1000000) : Step s (s.size : Int) ⟨#[60, 101, 111, 102, 62]⟩ ⟨#[]⟩ (s.size : Int) := by
  refine step_of hA hs (by omega) (Int.le_refl _) (Int.le_refl _) fun W b fb y hp ht hL hF => ?_
  refine (tok_eof W b fb y s hL hF hp).mono ?_
  rintro e w' ⟨rfl, hU, hy⟩
  refine ⟨rfl, hU, ?_⟩
  have e1 : ({ y with kind := ⟨#[60, 101, 111, 102, 62]⟩ } : St) = { y with kind := ⟨#[60, 101, 111, 102, 62]⟩, txt := ⟨#[]⟩, pos := (s.size : Int) } := by rw [← ht, ← hp]
  rw [← e1]
  exact hy
theorem step_lt (hA : Dense s) (hs : (s.size : Int) ≤ 1000000) {p : Int} (h0 : 0 ≤ p) (h1 : p < (s.size : Int)) (hc : bt s p = 60) (hn : bt s (p + 1) ≠ 60 ∧ bt s (p + 1) ≠ 61 ∧ bt s (p + 1) ≠ 62) : Step s p ⟨#[60]⟩ ⟨#[]⟩ (p + 1) := by
  refine step_of hA hs h0 (by omega) (by omega) fun W b fb y hp ht hL hF => ?_
  subst hp
  have f0 : (bt s (y.pos + 1) == 60) = false := by simpa using hn.1
  have f1 : (bt s (y.pos + 1) == 61) = false := by simpa using hn.2.1
  have f2 : (bt s (y.pos + 1) == 62) = false := by simpa using hn.2.2
  refine (tok_lt W b fb y s hL hF h0 h1 hs hc (by rw [f0, Bool.and_false]) (by rw [f1, Bool.and_false]) (by rw [f2, Bool.and_false])).mono ?_
  rintro e w' ⟨rfl, hU, hy⟩
  refine ⟨rfl, hU, ?_⟩
  rw [← ht]
  exact hy
theorem step_gt (hA : Dense s) (hs : (s.size : Int) ≤ 1000000) {p : Int} (h0 : 0 ≤ p) (h1 : p + 1 = (s.size : Int)) (hc : bt s p = 62) : Step s p ⟨#[62]⟩ ⟨#[]⟩ (p + 1) := by
  refine step_of hA hs h0 (by omega) (by omega) fun W b fb y hp ht hL hF => ?_
  subst hp
  have hd : decide (y.pos + 1 < (s.size : Int)) = false := decide_eq_false (by omega)
  refine (tok_gt W b fb y s hL hF h0 (by omega) hs hc (by rw [hd, Bool.false_and]) (by rw [hd, Bool.false_and])).mono ?_
  rintro e w' ⟨rfl, hU, hy⟩
  refine ⟨rfl, hU, ?_⟩
  rw [← ht]
  exact hy
/-- A word: its kind and text as the words' law says. -/
theorem step_word (hA : Dense s) (hs : (s.size : Int) ≤ 1000000) {p : Int} (h0 : 0 ≤ p) (h1 : p < (s.size : Int)) (hc : isLetter (bt s p) = true) (hr : bt s p ≠ 82 ∧ bt s p ≠ 114)
    (hb : bt s p = 66 ∨ bt s p = 98 → p + 1 < (s.size : Int) ∧ bt s (p + 1) ≠ 82 ∧ bt s (p + 1) ≠ 114 ∧ bt s (p + 1) ≠ 34 ∧ bt s (p + 1) ≠ 39) :
    Step s p (wkind (wordOf s p (run isPart s p))) (wtxt (wordOf s p (run isPart s p)) ⟨#[]⟩) (run isPart s p) := by
  refine step_of hA hs h0 (run_ge _ _ _) (run_le (by omega)) fun W b fb y hp ht hL hF => ?_
  subst hp
  rw [← ht]
  by_cases h66 : bt s y.pos = 66
  · have h := hb (.inl h66)
    exact tok_word_b66 W b fb y s hL hF h0 h.1 hs h66 h.2
  · by_cases h98 : bt s y.pos = 98
    · have h := hb (.inr h98)
      exact tok_word_b98 W b fb y s hL hF h0 h.1 hs h98 h.2
    · exact tok_word1 W b fb y s hL hF h0 h1 hs hc ⟨h66, h98, hr.1, hr.2⟩
end
end Go.Proofs.YtjepdlmcombmcaaGreatDoor.Lx
