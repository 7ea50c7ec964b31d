/- The loop of a quoted content: an escape of two hexadecimal digits, and one that is none. Conditions: the round begins at a backslash. -/
import Derived.Test.YtjepdlmcombmcaaGreatDoorNq
namespace Go.Proofs.YtjepdlmcombmcaaGreatDoor.Lx
open Go.RowKit Go.Proofs.YtjepdlmcombmcaaGreatDoorW.PrintWords

set_option maxRecDepth 100000 in
set_option maxHeartbeats 8000000 in
theorem rd_x (w : World) (b fb : Nat) (x : St) (s q nm' : ByteArray) (c L : Int) (uni : Bool) (u34 u35 : Value) (R : Option Int) (h : Lx0 w b fb s x) (hT : Txt s) (hM : Mark s q c L) (hp0 : 0 ≤ x.pos)
    (gk : Nat) (wr : World) (i : Int) (A : Option Addr) (C n : Nat) (xs : List Int) (HNX : Aside0 (n = xs.length))
    (HA : Aside0 (L ≤ i ∧ x.pos + i ≤ (s.size : Int) ∧ quoA s c L false (!uni) (x.pos + i) = R ∧ ((s.size : Int) - (x.pos + i)).toNat < gk ∧ (xs = [] ↔ i = L) ∧ (n : Int) ≤ 4 * i))
    (HB : Aside0 (Below w.heap.size w wr)) (HO : Aside0 (OwnN wr w.heap.size (.slice A n C) xs)) (a0 a1 a2 a3 a4 a5 a6 a7 a8 a9 a10 a11 a12 a13 a14 a15 a16 a17 a18 a19 a20 a21 a22 a23 : U20)
    (hq : x.pos + i < (s.size : Int)) (HF : Aside0 (isQ s c L (x.pos + i) = false)) (H92 : Aside0 (bt s (x.pos + i) = 92)) (hxX : Aside0 (bt s (x.pos + (i + 1)) = 120 ∨ bt s (x.pos + (i + 1)) = 88))
    (J : Nat → Act → World → Prop) (K : Act → World → Prop) (Q : Exit → Act → World → Prop) (hJ : ∀ k a' w', I83 w b x s q nm' c L uni u34 u35 R k a' w' → J k a' w') (hK : ∀ a' w', Handed J gk a' w' → K a' w') (hOut : Aside0 (Out83 b fb w R Q)) :
    Code.wp Tryz.prog (loopOf Tryz.f83) (Exit.then K Q) (frame83 b q false uni nm' L u34 u35 i (.slice A n C) a0 a1 a2 a3 a4 a5 a6 a7 a8 a9 a10 a11 a12 a13 a14 a15 a16 a17 a18 a19 a20 a21 a22 a23) wr := by
  have hs : (s.size : Int) ≤ 5000 := by have := hT.size; omega
  have hL0 := hM.one
  have hqs := hM.sz
  unfold frame83
  conv => arg 2; whnf
  unfold I83 at hJ
  have hB := HB.out
  have hX := h.below hB
  have hat := hX.at_
  have C9 : wr.cell? ⟨b, 9, none⟩ = some (.int .i64 x.pos) := hX.l.c9
  have i0 := HA.out.1
  have i1 := HA.out.2.1
  have hi0 : 0 ≤ i := by omega
  have hsz := hB.size
  have hlen : xs.length + 4 ≤ 100000000 := by have := HA.out.2.2.2.2.2; have := HNX.out; omega
  have hqq := HA.out.2.2.1
  have HQ := Aside0.mk hqq
  clear hqq
  have hd1 : decide (x.pos + i < (s.size : Int)) = true := decide_eq_true hq
  have hwL := iwrap (i + L) (by omega) (by omega)
  have hw1 := iwrap (i + 1) (by omega) (by omega)
  have hcut := hM.cut (x.pos + i) (by omega) (by omega)
  rw [show x.pos + i + L = x.pos + (i + L) by omega, HF.out] at hcut
  have h92 : (bt s (x.pos + i) == 92) = true := by rw [H92.out]; rfl
  have hbr : x.pos + i + 9 < (s.size : Int) := by
    by_cases hh : x.pos + i + 9 < (s.size : Int)
    · exact hh
    · exact absurd H92.out (hT.brit (x.pos + i) (by omega) (by omega))
  have hd2 : decide (x.pos + (i + 1) < (s.size : Int)) = true := decide_eq_true (by omega)
  have hw2 := iwrap (i + 1 + 1) (by omega) (by omega)
  have E01 : Aside0 (x.pos + i + 1 = x.pos + (i + 1)) := ⟨by omega⟩
  have hin1 : x.pos + i + 1 < (s.size : Int) := by omega
  have HES := Aside0.mk (esc_x (bytes := !uni) hin1 (by rw [E01.out]; exact hxX.out))
  have hxY := hxX.out
  rcases hxY with f | f
  all_goals
    go_wp2_with (first
      | (go_at_call 75; (first | (with_reducible refine (peekOk_c b fb s x.pos _ _ hat hp0 (by omega) (by omega) (by omega)).mono ?_) | (with_reducible refine (peekOk_c b fb s x.pos _ _ (hat.drewN _) hp0 (by omega) (by omega) (by omega)).mono ?_)); rintro e w' ⟨rfl, ⟨n4, rfl⟩⟩)
      | (go_at_call 88; (first | (with_reducible refine (slice_c b fb s x.pos _ _ _ hat hp0 (by omega) (by omega) (by omega) (by omega) (by omega)).mono ?_) | (with_reducible refine (slice_c b fb s x.pos _ _ _ (hat.drewN _) hp0 (by omega) (by omega) (by omega) (by omega) (by omega)).mono ?_)); rintro e w' ⟨rfl, ⟨n6, rfl⟩⟩)
      | (go_at_call 77; (first | (with_reducible refine (peek_c b fb s x.pos _ _ hat hp0 (by omega) (by omega) (by omega) (by omega)).mono ?_) | (with_reducible refine (peek_c b fb s x.pos _ _ (hat.drewN _) hp0 (by omega) (by omega) (by omega) (by omega)).mono ?_)); rintro e w' ⟨rfl, ⟨n5, rfl⟩⟩))
    go_loopg [16, 184] 3 (fun kq v16 v184 wj => ∃ j : Nat, v16 = .bool false ∧ v184 = .int .i64 j ∧ Aside0 (j ≤ 2 ∧ 2 - j < kq ∧ hexes s 2 (x.pos + i + 2) = hexes s (2 - j) (x.pos + i + 2 + j)) ∧ ∃ m, wj = wr.drewN m)
    case atStart => exact ⟨0, rfl, rfl, ⟨by omega, by omega, by simp⟩, _, rfl⟩
    case round =>
      obtain ⟨j, rfl, rfl, HJ, m, rfl⟩ := hrel
      have j2 := HJ.out.1
      by_cases hj : (j : Int) < 2
      · have hdj : decide ((j : Int) < 2) = true := decide_eq_true hj
        have hwj := iwrap ((j : Int) + 1) (by omega) (by omega)
        have hwk := iwrap (i + 1 + 1 + (j : Int)) (by omega) (by omega)
        have hd3 : decide (x.pos + (i + 1 + 1 + (j : Int)) < (s.size : Int)) = true := decide_eq_true (by omega)
        obtain ⟨k, hk⟩ : ∃ k, 2 - j = k + 1 := ⟨1 - j, by omega⟩
        have e2 : x.pos + i + 2 + (j : Int) = x.pos + (i + 1 + 1 + (j : Int)) := by omega
        have HH := Aside0.mk HJ.out.2.2
        rw [hk, e2] at HH
        have HK := Aside0.mk (And.intro hk e2)
        clear e2 hk
        cases hx : isHex (bt s (x.pos + (i + 1 + 1 + (j : Int)))) with
        | true =>
          have HX := Aside0.mk hx
          go_wp2_with (first
            | (go_at_call 75; (first | (with_reducible refine (peekOk_c b fb s x.pos _ _ hat hp0 (by omega) (by omega) (by omega)).mono ?_) | (with_reducible refine (peekOk_c b fb s x.pos _ _ (hat.drewN _) hp0 (by omega) (by omega) (by omega)).mono ?_)); rintro e w' ⟨rfl, ⟨n4, rfl⟩⟩)
            | (go_at_call 77; (first | (with_reducible refine (peek_c b fb s x.pos _ _ hat hp0 (by omega) (by omega) (by omega) (by omega)).mono ?_) | (with_reducible refine (peek_c b fb s x.pos _ _ (hat.drewN _) hp0 (by omega) (by omega) (by omega) (by omega)).mono ?_)); rintro e w' ⟨rfl, ⟨n5, rfl⟩⟩)
            | (go_at_call 108; (with_reducible refine (charIsHexDigit_c _ _).mono ?_); rintro e w' ⟨rfl, hw'⟩; obtain rfl := hw'.symm))
          go_roundg (2 - j)
          case measure => have := HJ.out.2.1; omega
          case rel => exact ⟨j + 1, rfl, rfl, ⟨by omega, by omega, by rw [HH.out]; simp only [hexes]; rw [HX.out, Bool.true_and, show 2 - (j + 1) = k by have := HK.out.1; omega]; congr 1; push_cast; omega⟩, _, rfl⟩
        | false =>
          have HX := Aside0.mk hx
          have hxf : Aside0 (hexes s 2 (x.pos + i + 2) = false) := ⟨by rw [HH.out]; simp only [hexes]; rw [HX.out]; rfl⟩
          have hr : R = none := by rw [← HQ.out]; exact quoA_bad hq HF.out H92.out (by rw [HES.out, hxf.out]; rfl)
          subst hr
          have HOUT := hOut
          have hwx0 := iwrap (x.pos + (i + 1 + 1)) (by omega) (by omega)
          have hwx1 := iwrap (x.pos + (i + 1 + 1) - 2) (by omega) (by omega)
          have hwx2 := iwrap (x.pos + (i + 1 + 1) + (j : Int)) (by omega) (by omega)
          have hwx3 := iwrap (x.pos + (i + 1 + 1) + (j : Int) + 1) (by omega) (by omega)
          have hp0' : 0 ≤ x.pos + (i + 1 + 1) - 2 := by omega
          have hpq' : x.pos + (i + 1 + 1) - 2 ≤ x.pos + (i + 1 + 1) + (j : Int) + 1 := by omega
          have hqs' : x.pos + (i + 1 + 1) + (j : Int) + 1 ≤ (s.size : Int) := by omega
          go_wp2_with (first
            | (go_at_call 75; (first | (with_reducible refine (peekOk_c b fb s x.pos _ _ hat hp0 (by omega) (by omega) (by omega)).mono ?_) | (with_reducible refine (peekOk_c b fb s x.pos _ _ (hat.drewN _) hp0 (by omega) (by omega) (by omega)).mono ?_)); rintro e w' ⟨rfl, ⟨n4, rfl⟩⟩)
            | (go_at_call 77; (first | (with_reducible refine (peek_c b fb s x.pos _ _ hat hp0 (by omega) (by omega) (by omega) (by omega)).mono ?_) | (with_reducible refine (peek_c b fb s x.pos _ _ (hat.drewN _) hp0 (by omega) (by omega) (by omega) (by omega)).mono ?_)); rintro e w' ⟨rfl, ⟨n5, rfl⟩⟩)
            | (go_at_call 108; (with_reducible refine (charIsHexDigit_c _ _).mono ?_); rintro e w' ⟨rfl, hw'⟩; obtain rfl := hw'.symm))
          refine wp_gen (w0 := wr) ?_
          intro wz hwz
          have hXz : Lx0 wz b fb s x := by obtain ⟨n, rfl⟩ := hwz; exact hX.drewN n
          have hUz : Ups b w wz := by obtain ⟨n, rfl⟩ := hwz; exact ((Ups.refl b w).below hB).drewN n
          have C9z := hXz.l.c9
          clear hwz
          go_still_tail 17, (by kernel_rfl)
          have hXd := hXz.drew
          go_wp2_with (first
            | (go_at_call 107; (with_reducible refine (panicAt_c b fb s x (x.pos + (i + 1 + 1) - 2) (x.pos + (i + 1 + 1) + (j : Int) + 1) _ _ hXd hs hp0' hpq' hqs').mono ?_); rintro e w' ⟨⟨g, rfl⟩, hU2⟩))
          exact HOUT.out g _ _ rfl ((hUz.drew.two fb).trans hU2)
      · have hdj : decide ((j : Int) < 2) = false := decide_eq_false hj
        have hhx : hexes s 2 (x.pos + i + 2) = true := by rw [HJ.out.2.2, show 2 - j = 0 by omega]; rfl
        have HES2 : Aside0 (esc s false (!uni) (x.pos + i) = some (x.pos + i + 4)) := ⟨by rw [HES.out, hhx]; rfl⟩
        have hw4 := iwrap (i + 1 + 1 + 2) (by omega) (by omega)
        have hcd := cut_digits s 16 (x.pos + (i + 1 + 1)) 2 (by omega) (by omega) (fun z h1 h2 => ⟨hexes_at s 2 _ hhx z (by omega) (by omega), by have := hexVal_range (hexes_at s 2 _ hhx z (by omega) (by omega)); omega⟩)
        rw [show x.pos + (i + 1 + 1) + ((2 : Nat) : Int) = x.pos + (i + 1 + 1 + 2) by omega] at hcd
        have hlt := (numB_lt 16 s (by omega) 2 (x.pos + (i + 1 + 1)) 0 (by omega) (fun z h1 h2 => by have := hexVal_range (hexes_at s 2 _ hhx z (by omega) (by omega)); omega)).2
        have h3 : ((0 : Int) + 1) * 16 ^ 2 = 256 := by decide
        rw [h3] at hlt
        clear h3
        have hv1 : numB 16 (s.extract (x.pos + (i + 1 + 1)).toNat (x.pos + (i + 1 + 1 + 2)).toNat) (s.extract (x.pos + (i + 1 + 1)).toNat (x.pos + (i + 1 + 1 + 2)).toNat).size 0 0 ≤ 255 := by rw [hcd.2.2]; omega
        have hz0 : 0 < (s.extract (x.pos + (i + 1 + 1)).toNat (x.pos + (i + 1 + 1 + 2)).toNat).size := by rw [hcd.1]; omega
        have hz8 : (s.extract (x.pos + (i + 1 + 1)).toNat (x.pos + (i + 1 + 1 + 2)).toNat).size ≤ 8 := by rw [hcd.1]; omega
        have hdg := hcd.2.1
        clear hcd hlt hhx
        go_wp2_with (first
          | (go_at_call 88; (first | (with_reducible refine (slice_c b fb s x.pos _ _ _ hat hp0 (by omega) (by omega) (by omega) (by omega) (by omega)).mono ?_) | (with_reducible refine (slice_c b fb s x.pos _ _ _ (hat.drewN _) hp0 (by omega) (by omega) (by omega) (by omega) (by omega)).mono ?_)); rintro e w' ⟨rfl, ⟨n6, rfl⟩⟩)
          | (go_at_call 110; (with_reducible refine (parseUint16_8 _ _ hz0 hz8 hdg hv1).mono ?_); rintro e wP ⟨rfl, hbP⟩; have HOP := (HO.out.drewN _).below hbP; have hBP := (below_drewN hB _).trans (hbP.mono hsz); have hszP := hBP.size)
          | (at_builtin; refine append_one (w0 := w) w.heap.size rfl (.tmp 250) (.tmp 253) rfl _ xs _ rfl rfl HOP hBP hszP hlen ?_; intro v1 w1 HO1 HB1; obtain ⟨A1, C1, rfl⟩ := HO1.shape' HNX.out (m := 1) rfl))
        refine Handed.intro (((s.size : Int) - (x.pos + (i + 1 + 1 + 2))).toNat + 1) (by have := HA.out.2.2.2.1; omega) ?_
        go_step
        exact ⟨i + 1 + 1 + 2, A1, C1, _, xs ++ [_], ⟨⟨by have := HNX.out; simp only [List.length_append, List.length_cons, List.length_nil]; omega, by omega, by omega, by rw [← HQ.out]; exact by rw [quoA_esc (by omega) hq HF.out H92.out HES2.out]; congr 1; omega, by omega, ⟨fun hh => by simp at hh, fun hh => by exfalso; omega⟩, by have := HA.out.2.2.2.2.2; omega⟩, ⟨HB1⟩, ⟨HO1⟩⟩, to_frame83⟩

set_option maxRecDepth 100000 in
set_option maxHeartbeats 8000000 in
theorem rd_dflt (w : World) (b fb : Nat) (x : St) (s q nm' : ByteArray) (c L : Int) (uni : Bool) (u34 u35 : Value) (R : Option Int) (h : Lx0 w b fb s x) (hT : Txt s) (hM : Mark s q c L) (hp0 : 0 ≤ x.pos)
    (gk : Nat) (wr : World) (i : Int) (A : Option Addr) (C n : Nat) (xs : List Int) (HNX : Aside0 (n = xs.length))
    (HA : Aside0 (L ≤ i ∧ x.pos + i ≤ (s.size : Int) ∧ quoA s c L false (!uni) (x.pos + i) = R ∧ ((s.size : Int) - (x.pos + i)).toNat < gk ∧ (xs = [] ↔ i = L) ∧ (n : Int) ≤ 4 * i))
    (HB : Aside0 (Below w.heap.size w wr)) (a0 a1 a2 a3 a4 a5 a6 a7 a8 a9 a10 a11 a12 a13 a14 a15 a16 a17 a18 a19 a20 a21 a22 a23 : U20)
    (hq : x.pos + i < (s.size : Int)) (HF : Aside0 (isQ s c L (x.pos + i) = false)) (H92 : Aside0 (bt s (x.pos + i) = 92)) (hS : Aside0 (isSimpleEsc (bt s (x.pos + (i + 1))) = false)) (h1 : Aside0 (bt s (x.pos + (i + 1)) ≠ 120 ∧ bt s (x.pos + (i + 1)) ≠ 88 ∧ bt s (x.pos + (i + 1)) ≠ 117 ∧ bt s (x.pos + (i + 1)) ≠ 85)) (h2 : Aside0 (bt s (x.pos + (i + 1)) ≠ 48 ∧ bt s (x.pos + (i + 1)) ≠ 49 ∧ bt s (x.pos + (i + 1)) ≠ 50 ∧ bt s (x.pos + (i + 1)) ≠ 51))
    (J : Nat → Act → World → Prop) (K : Act → World → Prop) (Q : Exit → Act → World → Prop) (hJ : ∀ k a' w', I83 w b x s q nm' c L uni u34 u35 R k a' w' → J k a' w') (hOut : Aside0 (Out83 b fb w R Q)) :
    Code.wp Tryz.prog (loopOf Tryz.f83) (Exit.then K Q) (frame83 b q false uni nm' L u34 u35 i (.slice A n C) a0 a1 a2 a3 a4 a5 a6 a7 a8 a9 a10 a11 a12 a13 a14 a15 a16 a17 a18 a19 a20 a21 a22 a23) wr := by
  have hs : (s.size : Int) ≤ 5000 := by have := hT.size; omega
  have hL0 := hM.one
  have hqs := hM.sz
  unfold frame83
  conv => arg 2; whnf
  unfold I83 at hJ
  have hB := HB.out
  have hX := h.below hB
  have hat := hX.at_
  have C9 : wr.cell? ⟨b, 9, none⟩ = some (.int .i64 x.pos) := hX.l.c9
  have i0 := HA.out.1
  have i1 := HA.out.2.1
  have hi0 : 0 ≤ i := by omega
  have hsz := hB.size
  have hlen : xs.length + 4 ≤ 100000000 := by have := HA.out.2.2.2.2.2; have := HNX.out; omega
  have hqq := HA.out.2.2.1
  have HQ := Aside0.mk hqq
  clear hqq
  have hd1 : decide (x.pos + i < (s.size : Int)) = true := decide_eq_true hq
  have hwL := iwrap (i + L) (by omega) (by omega)
  have hw1 := iwrap (i + 1) (by omega) (by omega)
  have hcut := hM.cut (x.pos + i) (by omega) (by omega)
  rw [show x.pos + i + L = x.pos + (i + L) by omega, HF.out] at hcut
  have h92 : (bt s (x.pos + i) == 92) = true := by rw [H92.out]; rfl
  have hbr : x.pos + i + 9 < (s.size : Int) := by
    by_cases hh : x.pos + i + 9 < (s.size : Int)
    · exact hh
    · exact absurd H92.out (hT.brit (x.pos + i) (by omega) (by omega))
  have hd2 : decide (x.pos + (i + 1) < (s.size : Int)) = true := decide_eq_true (by omega)
  have hw2 := iwrap (i + 1 + 1) (by omega) (by omega)
  have E01 : Aside0 (x.pos + i + 1 = x.pos + (i + 1)) := ⟨by omega⟩
  have hin1 : x.pos + i + 1 < (s.size : Int) := by omega
  have hsn' := simple_not hS.out
  have hr : R = none := by rw [← HQ.out]; exact quoA_bad hq HF.out H92.out (esc_d (by rw [E01.out]; exact hS.out) (by rw [E01.out]; exact h1.out) (by rw [E01.out]; exact h2.out))
  subst hr
  have HOUT := hOut
  obtain ⟨m1, m2, m3, m4⟩ := h1.out
  obtain ⟨m5, m6, m7, m8⟩ := h2.out
  have g97 : (bt s (x.pos + (i + 1)) == 97) = false := beqf (by omega)
  have g98 : (bt s (x.pos + (i + 1)) == 98) = false := beqf (by omega)
  have g102 : (bt s (x.pos + (i + 1)) == 102) = false := beqf (by omega)
  have g110 : (bt s (x.pos + (i + 1)) == 110) = false := beqf (by omega)
  have g114 : (bt s (x.pos + (i + 1)) == 114) = false := beqf (by omega)
  have g116 : (bt s (x.pos + (i + 1)) == 116) = false := beqf (by omega)
  have g118 : (bt s (x.pos + (i + 1)) == 118) = false := beqf (by omega)
  have g92 : (bt s (x.pos + (i + 1)) == 92) = false := beqf (by omega)
  have g63 : (bt s (x.pos + (i + 1)) == 63) = false := beqf (by omega)
  have g34 : (bt s (x.pos + (i + 1)) == 34) = false := beqf (by omega)
  have g39 : (bt s (x.pos + (i + 1)) == 39) = false := beqf (by omega)
  have g96 : (bt s (x.pos + (i + 1)) == 96) = false := beqf (by omega)
  have g120 : (bt s (x.pos + (i + 1)) == 120) = false := beqf (by omega)
  have g88 : (bt s (x.pos + (i + 1)) == 88) = false := beqf (by omega)
  have g117 : (bt s (x.pos + (i + 1)) == 117) = false := beqf (by omega)
  have g85 : (bt s (x.pos + (i + 1)) == 85) = false := beqf (by omega)
  have g48 : (bt s (x.pos + (i + 1)) == 48) = false := beqf (by omega)
  have g49 : (bt s (x.pos + (i + 1)) == 49) = false := beqf (by omega)
  have g50 : (bt s (x.pos + (i + 1)) == 50) = false := beqf (by omega)
  have g51 : (bt s (x.pos + (i + 1)) == 51) = false := beqf (by omega)
  clear hsn' m1 m2 m3 m4 m5 m6 m7 m8
  have hwx0 := iwrap (x.pos + (i + 1 + 1)) (by omega) (by omega)
  have hwx1 := iwrap (x.pos + (i + 1 + 1) - 2) (by omega) (by omega)
  have hp0' : 0 ≤ x.pos + (i + 1 + 1) - 2 := by omega
  have hpq' : x.pos + (i + 1 + 1) - 2 ≤ x.pos + (i + 1 + 1) := by omega
  have hqs' : x.pos + (i + 1 + 1) ≤ (s.size : Int) := by omega
  go_wp2_with (first
    | (go_at_call 75; (first | (with_reducible refine (peekOk_c b fb s x.pos _ _ hat hp0 (by omega) (by omega) (by omega)).mono ?_) | (with_reducible refine (peekOk_c b fb s x.pos _ _ (hat.drewN _) hp0 (by omega) (by omega) (by omega)).mono ?_)); rintro e w' ⟨rfl, ⟨n4, rfl⟩⟩)
    | (go_at_call 88; (first | (with_reducible refine (slice_c b fb s x.pos _ _ _ hat hp0 (by omega) (by omega) (by omega) (by omega) (by omega)).mono ?_) | (with_reducible refine (slice_c b fb s x.pos _ _ _ (hat.drewN _) hp0 (by omega) (by omega) (by omega) (by omega) (by omega)).mono ?_)); rintro e w' ⟨rfl, ⟨n6, rfl⟩⟩)
    | (go_at_call 77; (first | (with_reducible refine (peek_c b fb s x.pos _ _ hat hp0 (by omega) (by omega) (by omega) (by omega)).mono ?_) | (with_reducible refine (peek_c b fb s x.pos _ _ (hat.drewN _) hp0 (by omega) (by omega) (by omega) (by omega)).mono ?_)); rintro e w' ⟨rfl, ⟨n5, rfl⟩⟩))
  refine wp_gen (w0 := wr) ?_
  intro wz hwz
  have hXz : Lx0 wz b fb s x := by obtain ⟨n, rfl⟩ := hwz; exact hX.drewN n
  have hUz : Ups b w wz := by obtain ⟨n, rfl⟩ := hwz; exact ((Ups.refl b w).below hB).drewN n
  have C9z := hXz.l.c9
  clear hwz
  go_still_tail 14, (by kernel_rfl)
  have hXd := hXz.drew
  go_wp2_with (first
    | (go_at_call 107; (with_reducible refine (panicAt_c b fb s x (x.pos + (i + 1 + 1) - 2) (x.pos + (i + 1 + 1)) _ _ hXd hs hp0' hpq' hqs').mono ?_); rintro e w' ⟨⟨g, rfl⟩, hU2⟩))
  exact HOUT.out g _ _ rfl ((hUz.drew.two fb).trans hU2)
end Go.Proofs.YtjepdlmcombmcaaGreatDoor.Lx
