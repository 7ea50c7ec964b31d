/- Comments: what skipCommentUntil and skipComment leave in general. Conditions: the lexer's state; the text's bytes. -/
import Derived.Test.YtjepdlmcombmcaaGreatDoorNi
import Derived.Test.YtjepdlmcombmcaaGreatDoorLh
namespace Go.Proofs.YtjepdlmcombmcaaGreatDoor.Lx
open Go.RowKit Go.Proofs.YtjepdlmcombmcaaGreatDoorW.PrintWords

theorem star_step {s : ByteArray} {q : Int} (h : q < (s.size : Int)) (hc : (bt s q == 42 && bt s (q + 1) == 47) = false) : starAt s q = starAt s (q + 1) := upto_step (Q := fun j => !(bt s j == 42 && bt s (j + 1) == 47)) h (by simp only [hc]; rfl)
theorem star_stop {s : ByteArray} {q : Int} (hc : (bt s q == 42 && bt s (q + 1) == 47) = true) : starAt s q = q := upto_stop (Q := fun j => !(bt s j == 42 && bt s (j + 1) == 47)) (by simp only [hc]; rfl)
theorem star_eof {s : ByteArray} {q : Int} (h : (s.size : Int) ≤ q) : starAt s q = q := upto_end h

/-- What is left behind a comment's search: it is closed at c, or not. -/
def Skips (b fb : Nat) (x : St) (r : Option Int) (w : World) (e : Ending) (w' : World) : Prop :=
  match r with
  | some c => e = .returned (.bool false) ∧ Ups b w w' ∧ IsL w' b fb { x with pos := c }
  | none => Fails b fb w e w'
set_option maxRecDepth 100000 in
set_option maxHeartbeats 1000000 in
theorem untilStar_c (w : World) (b fb : Nat) (x : St) (s : ByteArray) (h : Lx0 w b fb s x) (hp0 : 0 ≤ x.pos) (hp1 : x.pos ≤ (s.size : Int)) (hs : (s.size : Int) ≤ 5000) :
    Calls Tryz.prog 74 #[.pointer (some ⟨b, 0, none⟩), .string ⟨#[42, 47]⟩, .bool true, .bool false] w (Skips b fb x (if starAt s x.pos < (s.size : Int) then some (starAt s x.pos + 2) else none) w) := by
  have hL := h.l
  have hF := h.isF
  have hne := h.ne
  have H9 := hL.c9
  obtain ⟨R, hR⟩ : ∃ R, (if starAt s x.pos < (s.size : Int) then some (starAt s x.pos + 2) else none) = R := ⟨_, rfl⟩
  have HR := Aside0.mk hR
  rw [hR]
  clear hR
  go_enter Tryz.func74, Tryz.ntmps74
  go_wp2
  go_loopg [] (((s.size : Int) - x.pos).toNat + 1) (fun kq wr => ∃ q : Int, Aside0 (x.pos ≤ q ∧ q ≤ (s.size : Int) ∧ starAt s q = starAt s x.pos ∧ ((s.size : Int) - q).toNat < kq) ∧ Ups b w wr ∧ IsL wr b fb { x with pos := q })
  case atStart => exact ⟨x.pos, ⟨Int.le_refl _, hp1, rfl, by omega⟩, Ups.refl _ _, hL⟩
  case round =>
    obtain ⟨q, HA, hU, hLq⟩ := hrel
    have hFq : IsF wr fb s := hF.ups hU hne
    have hat : At wr b fb s q := hLq.at_ hFq
    have hXq := h.step hU hLq
    clear H9
    have hq0 : 0 ≤ q := by have := HA.out.1; omega
    by_cases hq : q < (s.size : Int)
    · have hd : decide ((s.size : Int) ≤ q) = false := decide_eq_false (by omega)
      have hcut := cut2 s q 42 47 hq0 (by omega) (by decide) (by decide)
      cases hc : (bt s q == 42 && bt s (q + 1) == 47) with
      | true =>
        have hc1 : ((s.extract q.toNat (q + 2).toNat).toList == [42, 47]) = true := by rw [hcut]; exact hc
        have h2 : q + 1 < (s.size : Int) := by
          simp only [Bool.and_eq_true, beq_iff_eq] at hc
          exact bt_in hc.2 (by omega) (by omega)
        have HC := Aside0.mk hc
        clear hcut hc
        go_wp2_with (first
          | (go_at_call 69; (with_reducible refine (eof_c b fb s q _ hat).mono ?_); rintro e w' ⟨rfl, ⟨n1, rfl⟩⟩)
          | (go_at_call 88; (with_reducible refine (slice_c b fb s q 0 _ 2 (hat.drewN _) hq0 (by omega) (by omega) (by omega) (by omega) (by omega)).mono ?_); rintro e w' ⟨rfl, ⟨n2, rfl⟩⟩)
          | (go_at_call 72; (with_reducible refine (skipN_c b fb s q 2 _ (hat.drewN _) ((hLq.drewN _).free 9) hq0 (by omega) (by omega) (by omega)).mono ?_); rintro e w' ⟨rfl, rfl⟩))
        go_ret
        have hr : starAt s x.pos = q := by rw [← HA.out.2.2.1]; exact star_stop HC.out
        have hr2 : R = some (q + 2) := by rw [← HR.out, if_pos (by omega), hr]
        subst hr2
        exact ⟨rfl, (hU.drewN _).set 9 _, (hLq.drewN _).set9 (q + 2)⟩
      | false =>
        have hc1 : ((s.extract q.toNat (q + 2).toNat).toList == [42, 47]) = false := by rw [hcut]; exact hc
        have HC := Aside0.mk hc
        clear hcut hc
        go_wp2_with (first
          | (go_at_call 69; (with_reducible refine (eof_c b fb s q _ hat).mono ?_); rintro e w' ⟨rfl, ⟨n1, rfl⟩⟩)
          | (go_at_call 88; (with_reducible refine (slice_c b fb s q 0 _ 2 (hat.drewN _) hq0 (by omega) (by omega) (by omega) (by omega) (by omega)).mono ?_); rintro e w' ⟨rfl, ⟨n2, rfl⟩⟩)
          | (go_at_call 78; (with_reducible refine (skip_c b fb s q _ (hat.drewN _) ((hLq.drewN _).free 9) hq0 (by omega) hq).mono ?_); rintro e w' ⟨rfl, ⟨n4, rfl⟩⟩))
        go_roundg (((s.size : Int) - (q + 1)).toNat + 1)
        case measure => have := HA.out.2.2.2; omega
        case rel => exact ⟨q + 1, ⟨by have := HA.out.1; omega, by omega, by rw [← HA.out.2.2.1]; exact (star_step hq HC.out).symm, by omega⟩, ((hU.drewN _).set 9 _), hLq.set9 (q + 1)⟩
    · have hd : decide ((s.size : Int) ≤ q) = true := decide_eq_true (by omega)
      have hq1 := HA.out.1
      have hq2 := HA.out.2.1
      have L9 : wr.cell? ⟨b, 9, none⟩ = some (.int .i64 q) := hLq.c9
      go_wp2_with (first
        | (go_at_call 69; (with_reducible refine (eof_c b fb s q _ hat).mono ?_); rintro e w' ⟨rfl, ⟨nd, rfl⟩⟩)
        | (go_at_call 107; (with_reducible refine (panicAt_c b fb s _ x.pos q _ _ (hXq.drewN _) hs hp0 hq1 hq2).mono ?_); rintro e w' ⟨⟨g, rfl⟩, hU2⟩))
      have hr : starAt s x.pos = q := by rw [← HA.out.2.2.1]; exact star_eof (by omega)
      have hr2 : R = none := by rw [← HR.out, if_neg (by omega)]
      subst hr2
      exact ⟨rfl, ⟨g, rfl⟩, ((hU.drewN _).two fb).trans hU2⟩

/-- The texts that are spoken of: printed bytes, tabs and line feeds; the signs that are shut out. -/
structure Txt (s : ByteArray) : Prop where
  size : (s.size : Int) ≤ 4096
  rng : ∀ i : Int, 0 ≤ i → i < (s.size : Int) → bt s i = 9 ∨ bt s i = 10 ∨ 32 ≤ bt s i ∧ bt s i ≤ 126
  bang : ∀ i : Int, 0 ≤ i → bt s i = 33 → bt s (i + 1) = 61
  eqs : ∀ i : Int, 0 ≤ i → bt s i = 43 ∨ bt s i = 45 → bt s (i + 1) ≠ 61
  feed : ∀ i : Int, 0 ≤ i → bt s i = 92 → bt s (i + 1) ≠ 10
  slash : ∀ i : Int, 0 ≤ i → bt s i = 47 → bt s (i + 1) = 42 → bt s (i + 2) ≠ 47
  brit : ∀ i : Int, 0 ≤ i → (s.size : Int) ≤ i + 9 → bt s i ≠ 92
theorem Txt.ascii {s : ByteArray} (h : Txt s) : Ascii s := fun i h0 h1 => by have := h.rng i h0 h1; omega
theorem star_block {s : ByteArray} {p : Int} (h0 : 0 ≤ p) (hb : isBlockC s p = true) (h2 : bt s (p + 2) ≠ 47) : starAt s p = starAt s (p + 2) := by
  unfold isBlockC at hb
  simp only [Bool.and_eq_true, beq_iff_eq] at hb
  have h1 := bt_in hb.2 (by omega) (by omega)
  rw [star_step (q := p) (by omega) (by rw [hb.1]; rfl), star_step (q := p + 1) h1 (by rw [hb.2, show p + 1 + 1 = p + 2 by omega]; simpa using h2), show p + 1 + 1 = p + 2 by omega]
theorem Skips.mono {b fb : Nat} {x : St} {r : Option Int} {w0 w : World} {e : Ending} {w' : World} (hU : Ups b w0 w) (h : Skips b fb x r w e w') : Skips b fb x r w0 e w' := by
  cases r with
  | some c => exact ⟨h.1, hU.trans h.2.1, h.2.2⟩
  | none => exact ⟨h.1, (hU.two fb).trans h.2⟩
theorem ret_of_skips {b fb : Nat} {x : St} {r : Option Int} {w0 w w' : World} {e : Ending} (hU : Ups b w0 w) (h : Skips b fb x r w e w') : (e = .returned (.bool false) ∧ Skips b fb x r w0 e w') ∨ (∃ g, e = .panicked [{ v := .iface 86 (.pointer (some ⟨g, 0, none⟩)), recovered := false }]) ∧ Skips b fb x r w0 e w' := by
  have h2 := Skips.mono hU h
  cases r with
  | some c => exact .inl ⟨h.1, h2⟩
  | none => exact .inr ⟨h.1, h2⟩
set_option maxHeartbeats 1000000 in
theorem skipComment_c (w : World) (b fb : Nat) (x : St) (s : ByteArray) (h : Lx0 w b fb s x) (hT : Txt s) (hp0 : 0 ≤ x.pos) (hp1 : x.pos ≤ (s.size : Int)) :
    Calls Tryz.prog 52 #[.pointer (some ⟨b, 0, none⟩), .bool false] w (Skips b fb x (comm s x.pos) w) := by
  have hat := h.at_
  have hs : (s.size : Int) ≤ 5000 := by have := hT.size; omega
  have H0 := hat.file
  have H1 := hat.pos
  have H2 := hat.buf
  have hs6 : (s.size : Int) ≤ 1000000 := by omega
  by_cases hlt : x.pos < (s.size : Int)
  · have hc := hT.ascii x.pos hp0 hlt
    have hL := h.l
    have hF := h.isF
    cases e35 : (bt s x.pos == 35) with
    | true =>
      have hcm : comm s x.pos = some (min (lineEnd s x.pos + 1) (s.size : Int)) := by unfold comm isLineC; rw [e35]; rfl
      rw [hcm]
      clear hcm
      go_enter Tryz.func52, Tryz.ntmps52
      go_wp2
      go_quiet ((go_at_call 70; exact quiet1 (dec_at s _ _ hp0 hlt hc) ⟨_, rfl⟩))
      go_wp2_with (first
        | (go_at_call 74; (with_reducible refine (untilLine_c _ b fb x s (hL.drewN _) (hF.drewN _) hp0 hp1 hs6).mono ?_); rintro e w1 ⟨rfl, hU, hL1⟩))
      go_ret
      exact ⟨rfl, ((Ups.refl b w).drewN _).trans hU, hL1⟩
    | false =>
    cases e45 : (bt s x.pos == 45 && bt s (x.pos + 1) == 45) with
    | true =>
      have hcm : comm s x.pos = some (min (lineEnd s x.pos + 1) (s.size : Int)) := by unfold comm isLineC; rw [e35, e45]; rfl
      rw [hcm]
      clear hcm
      have f1 : (bt s x.pos == 45) = true := by simp only [Bool.and_eq_true] at e45; exact e45.1
      have f2 : (bt s (x.pos + 1) == 45) = true := by simp only [Bool.and_eq_true] at e45; exact e45.2
      clear e45
      go_enter Tryz.func52, Tryz.ntmps52
      go_wp2
      go_quiet ((go_at_call 70; exact quiet1 (dec_at s _ _ hp0 hlt hc) ⟨_, rfl⟩))
      go_wp2_with (first
        | (go_at_call 73; (with_reducible refine (peekIs0_c b fb s x.pos 1 _ 45 (by omega) (hat.drewN _) hp0 (by omega) (by omega) (by omega)).mono ?_); rintro e w' ⟨rfl, ⟨n3, rfl⟩⟩)
        | (go_at_call 74; (with_reducible refine (untilLine_c _ b fb x s (hL.drewN _) (hF.drewN _) hp0 hp1 hs6).mono ?_); rintro e w1 ⟨rfl, hU, hL1⟩))
      go_ret
      exact ⟨rfl, ((Ups.refl b w).drewN _).trans hU, hL1⟩
    | false =>
    have hl : isLineC s x.pos = false := by unfold isLineC; rw [e35, e45]; rfl
    cases hk : isBlockC s x.pos with
    | true =>
      have hcm : comm s x.pos = if starAt s x.pos < (s.size : Int) then some (starAt s x.pos + 2) else none := by
        unfold comm
        rw [hl, hk]
        have h47 : bt s x.pos = 47 ∧ bt s (x.pos + 1) = 42 := by unfold isBlockC at hk; simpa using hk
        rw [star_block hp0 hk (hT.slash x.pos hp0 h47.1 h47.2)]
        rfl
      rw [hcm]
      clear hcm
      unfold isBlockC at hk
      have f1 : (bt s x.pos == 47) = true := by simp only [Bool.and_eq_true] at hk; exact hk.1
      have f2 : (bt s (x.pos + 1) == 42) = true := by simp only [Bool.and_eq_true] at hk; exact hk.2
      have f3 : (bt s x.pos == 45) = false := by rw [beq_iff_eq.1 f1]; rfl
      obtain ⟨R, hR⟩ : ∃ R, (if starAt s x.pos < (s.size : Int) then some (starAt s x.pos + 2) else none) = R := ⟨_, rfl⟩
      rw [hR]
      have HR := Aside0.mk hR
      clear e45 hk hR hl
      go_enter Tryz.func52, Tryz.ntmps52
      go_wp2
      go_quiet ((go_at_call 70; exact quiet1 (dec_at s _ _ hp0 hlt hc) ⟨_, rfl⟩))
      go_wp2_with (first
        | (go_at_call 73; (with_reducible refine (peekIs0_c b fb s x.pos 1 _ 42 (by omega) (hat.drewN _) hp0 (by omega) (by omega) (by omega)).mono ?_); rintro e w' ⟨rfl, ⟨n3, rfl⟩⟩)
        | (go_at_call 74; (with_reducible refine (untilStar_c _ b fb x s (h.drewN _) hp0 hp1 hs).mono ?_); rintro e w1 hsk; rw [HR.out] at hsk;
           rcases ret_of_skips ((Ups.refl b w).drewN _) hsk with ⟨rfl, hq⟩ | ⟨⟨g, rfl⟩, hq⟩))
      · go_ret
        exact hq
      · exact ⟨rfl, hq⟩
    | false =>
      have hcm : comm s x.pos = some x.pos := by unfold comm; rw [hl, hk]; rfl
      rw [hcm]
      clear hcm hl
      unfold isBlockC at hk
      cases f45 : (bt s x.pos == 45) with
      | true =>
        have g45 : (bt s (x.pos + 1) == 45) = false := by rw [f45, Bool.true_and] at e45; exact e45
        have f47 : (bt s x.pos == 47) = false := by rw [beq_iff_eq.1 f45]; rfl
        clear e45 hk
        go_enter Tryz.func52, Tryz.ntmps52
        go_wp2
        go_quiet ((go_at_call 70; exact quiet1 (dec_at s _ _ hp0 hlt hc) ⟨_, rfl⟩))
        go_wp2_with (first
          | (go_at_call 73; (with_reducible refine (peekIs0_c b fb s x.pos 1 _ 45 (by omega) (hat.drewN _) hp0 (by omega) (by omega) (by omega)).mono ?_); rintro e w' ⟨rfl, ⟨n3, rfl⟩⟩))
        go_ret
        exact ⟨rfl, (Ups.refl b w).drewN _, hL.drewN _⟩
      | false =>
        cases f47 : (bt s x.pos == 47) with
        | true =>
          have g42 : (bt s (x.pos + 1) == 42) = false := by rw [f47, Bool.true_and] at hk; exact hk
          clear e45 hk
          go_enter Tryz.func52, Tryz.ntmps52
          go_wp2
          go_quiet ((go_at_call 70; exact quiet1 (dec_at s _ _ hp0 hlt hc) ⟨_, rfl⟩))
          go_wp2_with (first
            | (go_at_call 73; (with_reducible refine (peekIs0_c b fb s x.pos 1 _ 42 (by omega) (hat.drewN _) hp0 (by omega) (by omega) (by omega)).mono ?_); rintro e w' ⟨rfl, ⟨n3, rfl⟩⟩))
          go_ret
          exact ⟨rfl, (Ups.refl b w).drewN _, hL.drewN _⟩
        | false =>
          clear e45 hk
          go_enter Tryz.func52, Tryz.ntmps52
          go_wp2
          go_quiet ((go_at_call 70; exact quiet1 (dec_at s _ _ hp0 hlt hc) ⟨_, rfl⟩))
          go_wp2
          go_ret
          exact ⟨rfl, (Ups.refl b w).drewN _, hL.drewN _⟩
  · have he : x.pos = (s.size : Int) := by omega
    have hcm : comm s x.pos = some x.pos := by
      unfold comm isLineC isBlockC
      rw [bt_far s x.pos (by omega)]
      rfl
    rw [hcm]
    clear hcm
    have hx : s.extract x.pos.toNat s.size = ⟨#[]⟩ := by
      apply ByteArray.ext
      rw [ByteArray.data_extract]
      apply Array.ext
      · have : s.data.size = s.size := rfl
        simp
        omega
      · intro i h1 h2
        simp at h2
    have hsl : ∀ W, (Instr.slice 9 (.string s) (some (.int .i64 x.pos)) none none).run Tryz.prog W = .ok (.string ⟨#[]⟩) W := by
      intro W
      rw [← hx, run_slice_string_from_if W 9 s .i64 x.pos Tryz.underlying9, if_pos ⟨hp0, hp1⟩]
    have hL := h.l
    clear hx he hlt hp1
    go_enter Tryz.func52, Tryz.ntmps52
    go_wp2
    go_quiet ((go_at_call 70; exact quiet1 (dec_empty _) ⟨_, rfl⟩))
    go_wp2
    go_ret
    exact ⟨rfl, (Ups.refl b w).drewN _, hL.drewN _⟩
end Go.Proofs.YtjepdlmcombmcaaGreatDoor.Lx
