/- The loop of a quoted content: an escape of three octal digits. Conditions: the round begins at a backslash. -/
import Derived.Test.YtjepdlmcombmcaaGreatDoorNq
namespace Go.Proofs.YtjepdlmcombmcaaGreatDoor.Lx
open Go.RowKit Go.Proofs.YtjepdlmcombmcaaGreatDoorW.PrintWords
theorem oct_cut (s : ByteArray) (a : Int) (h0 : 0 ≤ a) (h3 : a + 3 ≤ (s.size : Int)) (c0 : 48 ≤ bt s a ∧ bt s a ≤ 51) (c1 : isOct (bt s (a + 1)) = true) (c2 : isOct (bt s (a + 2)) = true) :
    (s.extract a.toNat (a + 3).toNat).size = 3 ∧ (∀ j : Int, 0 ≤ j → j < ((s.extract a.toNat (a + 3).toNat).size : Int) → isHex (bt (s.extract a.toNat (a + 3).toNat) j) = true ∧ hexVal (bt (s.extract a.toNat (a + 3).toNat) j) < 8) ∧
      numB 8 (s.extract a.toNat (a + 3).toNat) (s.extract a.toNat (a + 3).toNat).size 0 0 ≤ 255 := by
  have o : ∀ c, isOct c = true → 48 ≤ c ∧ c ≤ 55 := fun c h => of_decide_eq_true h
  have d1 := o _ c1
  have d2 := o _ c2
  have v : ∀ c, 48 ≤ c → c ≤ 55 → isHex c = true ∧ hexVal c = c - 48 := fun c h1 h2 => ⟨decide_eq_true (by omega), by unfold hexVal; rw [if_pos (by omega)]⟩
  have hh := cut_digits s 8 a 3 h0 (by omega) (fun j h1 h2 => by
    have hj : j = a ∨ j = a + 1 ∨ j = a + 2 := by omega
    rcases hj with rfl | rfl | rfl
    · have := v (bt s j) (by omega) (by omega); exact ⟨this.1, by omega⟩
    · have := v (bt s (a + 1)) (by omega) (by omega); exact ⟨this.1, by omega⟩
    · have := v (bt s (a + 2)) (by omega) (by omega); exact ⟨this.1, by omega⟩)
  have e3 : a + ((3 : Nat) : Int) = a + 3 := rfl
  rw [e3] at hh
  refine ⟨hh.1, hh.2.1, ?_⟩
  rw [hh.2.2]
  simp only [numB]
  rw [(v (bt s a) (by omega) (by omega)).2, (v (bt s (a + 1)) (by omega) (by omega)).2, show a + 1 + 1 = a + 2 by omega, (v (bt s (a + 2)) (by omega) (by omega)).2]
  omega

set_option maxRecDepth 100000 in
set_option maxHeartbeats 8000000 in
theorem rd_o (w : World) (b fb : Nat) (x : St) (s q nm' : ByteArray) (c L : Int) (uni : Bool) (u34 u35 : Value) (R : Option Int) (h : Lx0 w b fb s x) (hT : Txt s) (hM : Mark s q c L) (hp0 : 0 ≤ x.pos)
    (gk : Nat) (wr : World) (i : Int) (A : Option Addr) (C n : Nat) (xs : List Int) (HNX : Aside0 (n = xs.length))
    (HA : Aside0 (L ≤ i ∧ x.pos + i ≤ (s.size : Int) ∧ quoA s c L false (!uni) (x.pos + i) = R ∧ ((s.size : Int) - (x.pos + i)).toNat < gk ∧ (xs = [] ↔ i = L) ∧ (n : Int) ≤ 4 * i))
    (HB : Aside0 (Below w.heap.size w wr)) (HO : Aside0 (OwnN wr w.heap.size (.slice A n C) xs)) (a0 a1 a2 a3 a4 a5 a6 a7 a8 a9 a10 a11 a12 a13 a14 a15 a16 a17 a18 a19 a20 a21 a22 a23 : U20)
    (hq : x.pos + i < (s.size : Int)) (HF : Aside0 (isQ s c L (x.pos + i) = false)) (H92 : Aside0 (bt s (x.pos + i) = 92)) (hx : Aside0 (bt s (x.pos + (i + 1)) = 48 ∨ bt s (x.pos + (i + 1)) = 49 ∨ bt s (x.pos + (i + 1)) = 50 ∨ bt s (x.pos + (i + 1)) = 51))
    (J : Nat → Act → World → Prop) (K : Act → World → Prop) (Q : Exit → Act → World → Prop) (hJ : ∀ k a' w', I83 w b x s q nm' c L uni u34 u35 R k a' w' → J k a' w') (hK : ∀ a' w', Handed J gk a' w' → K a' w') (hOut : Aside0 (Out83 b fb w R Q)) :
    Code.wp Tryz.prog (loopOf Tryz.f83) (Exit.then K Q) (frame83 b q false uni nm' L u34 u35 i (.slice A n C) a0 a1 a2 a3 a4 a5 a6 a7 a8 a9 a10 a11 a12 a13 a14 a15 a16 a17 a18 a19 a20 a21 a22 a23) wr := by
  have hs : (s.size : Int) ≤ 5000 := by have := hT.size; omega
  have hL0 := hM.one
  have hqs := hM.sz
  unfold frame83
  conv => arg 2; whnf
  unfold I83 at hJ
  have hB := HB.out
  have hX := h.below hB
  have hat := hX.at_
  have C9 : wr.cell? ⟨b, 9, none⟩ = some (.int .i64 x.pos) := hX.l.c9
  have i0 := HA.out.1
  have i1 := HA.out.2.1
  have hi0 : 0 ≤ i := by omega
  have hsz := hB.size
  have hlen : xs.length + 4 ≤ 100000000 := by have := HA.out.2.2.2.2.2; have := HNX.out; omega
  have hqq := HA.out.2.2.1
  have HQ := Aside0.mk hqq
  clear hqq
  have hd1 : decide (x.pos + i < (s.size : Int)) = true := decide_eq_true hq
  have hwL := iwrap (i + L) (by omega) (by omega)
  have hw1 := iwrap (i + 1) (by omega) (by omega)
  have hcut := hM.cut (x.pos + i) (by omega) (by omega)
  rw [show x.pos + i + L = x.pos + (i + L) by omega, HF.out] at hcut
  have h92 : (bt s (x.pos + i) == 92) = true := by rw [H92.out]; rfl
  have hbr : x.pos + i + 9 < (s.size : Int) := by
    by_cases hh : x.pos + i + 9 < (s.size : Int)
    · exact hh
    · exact absurd H92.out (hT.brit (x.pos + i) (by omega) (by omega))
  have hd2 : decide (x.pos + (i + 1) < (s.size : Int)) = true := decide_eq_true (by omega)
  have hw2 := iwrap (i + 1 + 1) (by omega) (by omega)
  have E01 : Aside0 (x.pos + i + 1 = x.pos + (i + 1)) := ⟨by omega⟩
  have hin1 : x.pos + i + 1 < (s.size : Int) := by omega
  have HES : Aside0 (esc s false (!uni) (x.pos + i) = if isOct (bt s (x.pos + (i + 1 + 1))) && isOct (bt s (x.pos + (i + 1 + 1 + 1))) then some (x.pos + i + 4) else none) := ⟨by rw [esc_o hin1 (by rw [E01.out]; exact hx.out), show x.pos + i + 2 = x.pos + (i + 1 + 1) by omega, show x.pos + i + 3 = x.pos + (i + 1 + 1 + 1) by omega]⟩
  have hfz := hx.out
  have HFZ := Aside0.mk hfz
  rcases hfz with f | f | f | f
  all_goals
    go_wp2_with (first
      | (go_at_call 75; (first | (with_reducible refine (peekOk_c b fb s x.pos _ _ hat hp0 (by omega) (by omega) (by omega)).mono ?_) | (with_reducible refine (peekOk_c b fb s x.pos _ _ (hat.drewN _) hp0 (by omega) (by omega) (by omega)).mono ?_)); rintro e w' ⟨rfl, ⟨n4, rfl⟩⟩)
      | (go_at_call 88; (first | (with_reducible refine (slice_c b fb s x.pos _ _ _ hat hp0 (by omega) (by omega) (by omega) (by omega) (by omega)).mono ?_) | (with_reducible refine (slice_c b fb s x.pos _ _ _ (hat.drewN _) hp0 (by omega) (by omega) (by omega) (by omega) (by omega)).mono ?_)); rintro e w' ⟨rfl, ⟨n6, rfl⟩⟩)
      | (go_at_call 77; (first | (with_reducible refine (peek_c b fb s x.pos _ _ hat hp0 (by omega) (by omega) (by omega) (by omega)).mono ?_) | (with_reducible refine (peek_c b fb s x.pos _ _ (hat.drewN _) hp0 (by omega) (by omega) (by omega) (by omega)).mono ?_)); rintro e w' ⟨rfl, ⟨n5, rfl⟩⟩))
    go_loopg [16, 393] 3 (fun kq v16 v393 wj => ∃ j : Nat, v16 = .bool false ∧ v393 = .int .i64 j ∧ Aside0 (j ≤ 2 ∧ 2 - j < kq ∧ (1 ≤ j → isOct (bt s (x.pos + (i + 1 + 1))) = true) ∧ (2 ≤ j → isOct (bt s (x.pos + (i + 1 + 1 + 1))) = true)) ∧ ∃ m, wj = wr.drewN m)
    case atStart => exact ⟨0, rfl, rfl, ⟨by omega, by omega, fun h0 => by omega, fun h0 => by omega⟩, _, rfl⟩
    case round =>
      obtain ⟨j, rfl, rfl, HJ, m, rfl⟩ := hrel
      have j2 := HJ.out.1
      by_cases hj : (j : Int) < 2
      · have hdj : decide ((j : Int) < 2) = true := decide_eq_true hj
        have hwj := iwrap ((j : Int) + 1) (by omega) (by omega)
        have hwk := iwrap (i + 1 + 1 + (j : Int)) (by omega) (by omega)
        have hd3 : decide (x.pos + (i + 1 + 1 + (j : Int)) < (s.size : Int)) = true := decide_eq_true (by omega)
        have HJ2 := Aside0.mk (show (j : Int) = 0 ∨ (j : Int) = 1 by omega)
        cases hxx : isOct (bt s (x.pos + (i + 1 + 1 + (j : Int)))) with
        | true =>
          have HX := Aside0.mk hxx
          go_wp2_with (first
            | (go_at_call 75; (first | (with_reducible refine (peekOk_c b fb s x.pos _ _ hat hp0 (by omega) (by omega) (by omega)).mono ?_) | (with_reducible refine (peekOk_c b fb s x.pos _ _ (hat.drewN _) hp0 (by omega) (by omega) (by omega)).mono ?_)); rintro e w' ⟨rfl, ⟨n4, rfl⟩⟩)
            | (go_at_call 77; (first | (with_reducible refine (peek_c b fb s x.pos _ _ hat hp0 (by omega) (by omega) (by omega) (by omega)).mono ?_) | (with_reducible refine (peek_c b fb s x.pos _ _ (hat.drewN _) hp0 (by omega) (by omega) (by omega) (by omega)).mono ?_)); rintro e w' ⟨rfl, ⟨n5, rfl⟩⟩)
            | (go_at_call 112; (with_reducible refine (charIsOctalDigit_c _ _).mono ?_); rintro e w' ⟨rfl, hw'⟩; obtain rfl := hw'.symm))
          go_roundg (2 - j)
          case measure => have := HJ.out.2.1; omega
          case rel =>
            refine ⟨j + 1, rfl, rfl, ⟨by omega, by omega, fun _ => ?_, fun h0 => ?_⟩, _, rfl⟩
            · rcases HJ2.out with h0 | h0
              · have h5 := HX.out; rw [h0, Int.add_zero] at h5; exact h5
              · exact HJ.out.2.2.1 (by omega)
            · rcases HJ2.out with h1 | h1
              · omega
              · have h5 := HX.out; rw [h1] at h5; exact h5
        | false =>
          have HX := Aside0.mk hxx
          have hxf : Aside0 ((isOct (bt s (x.pos + (i + 1 + 1))) && isOct (bt s (x.pos + (i + 1 + 1 + 1)))) = false) := by
            have h5 := HX.out
            rcases HJ2.out with h1 | h1
            · rw [h1, Int.add_zero] at h5; exact ⟨by rw [h5]; rfl⟩
            · rw [h1] at h5; exact ⟨by rw [h5, Bool.and_false]⟩
          have hr : R = none := by rw [← HQ.out]; exact quoA_bad hq HF.out H92.out (by rw [HES.out, hxf.out]; rfl)
          subst hr
          have HOUT := hOut
          have hwx0 := iwrap (x.pos + (i + 1 + 1)) (by omega) (by omega)
          have hwx1 := iwrap (x.pos + (i + 1 + 1) - 2) (by omega) (by omega)
          have hwx2 := iwrap (x.pos + (i + 1 + 1) + (j : Int)) (by omega) (by omega)
          have hwx3 := iwrap (x.pos + (i + 1 + 1) + (j : Int) + 1) (by omega) (by omega)
          have hp0' : 0 ≤ x.pos + (i + 1 + 1) - 2 := by omega
          have hpq' : x.pos + (i + 1 + 1) - 2 ≤ x.pos + (i + 1 + 1) + (j : Int) + 1 := by omega
          have hqs' : x.pos + (i + 1 + 1) + (j : Int) + 1 ≤ (s.size : Int) := by omega
          go_wp2_with (first
            | (go_at_call 75; (first | (with_reducible refine (peekOk_c b fb s x.pos _ _ hat hp0 (by omega) (by omega) (by omega)).mono ?_) | (with_reducible refine (peekOk_c b fb s x.pos _ _ (hat.drewN _) hp0 (by omega) (by omega) (by omega)).mono ?_)); rintro e w' ⟨rfl, ⟨n4, rfl⟩⟩)
            | (go_at_call 77; (first | (with_reducible refine (peek_c b fb s x.pos _ _ hat hp0 (by omega) (by omega) (by omega) (by omega)).mono ?_) | (with_reducible refine (peek_c b fb s x.pos _ _ (hat.drewN _) hp0 (by omega) (by omega) (by omega) (by omega)).mono ?_)); rintro e w' ⟨rfl, ⟨n5, rfl⟩⟩)
            | (go_at_call 112; (with_reducible refine (charIsOctalDigit_c _ _).mono ?_); rintro e w' ⟨rfl, hw'⟩; obtain rfl := hw'.symm))
          refine wp_gen (w0 := wr) ?_
          intro wz hwz
          have hXz : Lx0 wz b fb s x := by obtain ⟨n, rfl⟩ := hwz; exact hX.drewN n
          have hUz : Ups b w wz := by obtain ⟨n, rfl⟩ := hwz; exact ((Ups.refl b w).below hB).drewN n
          have C9z := hXz.l.c9
          clear hwz
          go_still_tail 17, (by kernel_rfl)
          have hXd := hXz.drew
          go_wp2_with (first
            | (go_at_call 107; (with_reducible refine (panicAt_c b fb s x (x.pos + (i + 1 + 1) - 2) (x.pos + (i + 1 + 1) + (j : Int) + 1) _ _ hXd hs hp0' hpq' hqs').mono ?_); rintro e w' ⟨⟨g, rfl⟩, hU2⟩))
          exact HOUT.out g _ _ rfl ((hUz.drew.two fb).trans hU2)
      · have hdj : decide ((j : Int) < 2) = false := decide_eq_false hj
        have ho1 := HJ.out.2.2.1 (by omega)
        have ho2 := HJ.out.2.2.2 (by omega)
        have HES2 : Aside0 (esc s false (!uni) (x.pos + i) = some (x.pos + i + 4)) := ⟨by rw [HES.out, ho1, ho2]; rfl⟩
        have hw4 := iwrap (i + 1 + 1 + 2) (by omega) (by omega)
        have hw5 : IntKind.i64.wrap (i + 1 + 1 - 1) = i + 1 := by rw [iwrap _ (by omega) (by omega)]; omega
        obtain ⟨hcd1, hcd2, hcd3⟩ := oct_cut s (x.pos + (i + 1)) (by omega) (by omega) (by have h5 := HFZ.out; omega) (by rw [show x.pos + (i + 1) + 1 = x.pos + (i + 1 + 1) by omega]; exact ho1) (by rw [show x.pos + (i + 1) + 2 = x.pos + (i + 1 + 1 + 1) by omega]; exact ho2)
        rw [show x.pos + (i + 1) + 3 = x.pos + (i + 1 + 1 + 2) by omega] at hcd1 hcd2 hcd3
        have hP : ∀ W, ∃ V, Calls Tryz.prog 110 #[.string (s.extract (x.pos + (i + 1)).toNat (x.pos + (i + 1 + 1 + 2)).toNat), .int .i64 8, .int .i64 8] W (fun e w' => e = .returned (.tuple #[.int .u64 V, .nilIface]) ∧ Below W.heap.size W w') := fun W => ⟨_, parseUint8_8 (s.extract (x.pos + (i + 1)).toNat (x.pos + (i + 1 + 1 + 2)).toNat) W (by rw [hcd1]; omega) (by rw [hcd1]; omega) hcd2 hcd3⟩
        have HPA := Aside0.mk hP
        clear hcd1 hcd2 hcd3 ho1 ho2 hP
        go_wp2_with (first
          | (go_at_call 88; (first | (with_reducible refine (slice_c b fb s x.pos _ _ _ hat hp0 (by omega) (by omega) (by omega) (by omega) (by omega)).mono ?_) | (with_reducible refine (slice_c b fb s x.pos _ _ _ (hat.drewN _) hp0 (by omega) (by omega) (by omega) (by omega) (by omega)).mono ?_)); rintro e w' ⟨rfl, ⟨n6, rfl⟩⟩)
          | (go_at_call 110; obtain ⟨V, hP⟩ := HPA.out _; (with_reducible refine hP.mono ?_); rintro e wP ⟨rfl, hbP⟩; have HOP := (HO.out.drewN _).below hbP; have hBP := (below_drewN hB _).trans (hbP.mono hsz); have hszP := hBP.size)
          | (at_builtin; refine append_one (w0 := w) w.heap.size rfl (.tmp 460) (.tmp 463) rfl _ xs _ rfl rfl HOP hBP hszP hlen ?_; intro v1 w1 HO1 HB1; obtain ⟨A1, C1, rfl⟩ := HO1.shape' HNX.out (m := 1) rfl))
        refine Handed.intro (((s.size : Int) - (x.pos + (i + 1 + 1 + 2))).toNat + 1) (by have := HA.out.2.2.2.1; omega) ?_
        go_step
        exact ⟨i + 1 + 1 + 2, A1, C1, _, xs ++ [_], ⟨⟨by have := HNX.out; simp only [List.length_append, List.length_cons, List.length_nil]; omega, by omega, by omega, by rw [← HQ.out]; exact by rw [quoA_esc (by omega) hq HF.out H92.out HES2.out]; congr 1; omega, by omega, ⟨fun hh => by simp at hh, fun hh => by exfalso; omega⟩, by have := HA.out.2.2.2.2.2; omega⟩, ⟨HB1⟩, ⟨HO1⟩⟩, to_frame83⟩
end Go.Proofs.YtjepdlmcombmcaaGreatDoor.Lx
