/- The loop of a quoted content: an escape of eight hexadecimal digits; code points where they are not allowed. Conditions: the round begins at a backslash. -/
import Derived.Test.YtjepdlmcombmcaaGreatDoorNs
namespace Go.Proofs.YtjepdlmcombmcaaGreatDoor.Lx
open Go.RowKit Go.Proofs.YtjepdlmcombmcaaGreatDoorW.PrintWords

set_option maxRecDepth 100000 in
set_option maxHeartbeats 8000000 in
theorem rd_U (w : World) (b fb : Nat) (x : St) (s q nm' : ByteArray) (c L : Int) (u34 u35 : Value) (R : Option Int) (h : Lx0 w b fb s x) (hT : Txt s) (hM : Mark s q c L) (hp0 : 0 ≤ x.pos)
    (gk : Nat) (wr : World) (i : Int) (A : Option Addr) (C n : Nat) (xs : List Int) (HNX : Aside0 (n = xs.length))
    (HA : Aside0 (L ≤ i ∧ x.pos + i ≤ (s.size : Int) ∧ quoA s c L false (!true) (x.pos + i) = R ∧ ((s.size : Int) - (x.pos + i)).toNat < gk ∧ (xs = [] ↔ i = L) ∧ (n : Int) ≤ 4 * i))
    (HB : Aside0 (Below w.heap.size w wr)) (HO : Aside0 (OwnN wr w.heap.size (.slice A n C) xs)) (a0 a1 a2 a3 a4 a5 a6 a7 a8 a9 a10 a11 a12 a13 a14 a15 a16 a17 a18 a19 a20 a21 a22 a23 : U20)
    (hq : x.pos + i < (s.size : Int)) (HF : Aside0 (isQ s c L (x.pos + i) = false)) (H92 : Aside0 (bt s (x.pos + i) = 92)) (hx : Aside0 (bt s (x.pos + (i + 1)) = 85))
    (J : Nat → Act → World → Prop) (K : Act → World → Prop) (Q : Exit → Act → World → Prop) (hJ : ∀ k a' w', I83 w b x s q nm' c L true u34 u35 R k a' w' → J k a' w') (hK : ∀ a' w', Handed J gk a' w' → K a' w') (hOut : Aside0 (Out83 b fb w R Q)) :
    Code.wp Tryz.prog (loopOf Tryz.f83) (Exit.then K Q) (frame83 b q false true nm' L u34 u35 i (.slice A n C) a0 a1 a2 a3 a4 a5 a6 a7 a8 a9 a10 a11 a12 a13 a14 a15 a16 a17 a18 a19 a20 a21 a22 a23) wr := by
  have hs : (s.size : Int) ≤ 5000 := by have := hT.size; omega
  have hL0 := hM.one
  have hqs := hM.sz
  unfold frame83
  conv => arg 2; whnf
  unfold I83 at hJ
  have hB := HB.out
  have hX := h.below hB
  have hat := hX.at_
  have C9 : wr.cell? ⟨b, 9, none⟩ = some (.int .i64 x.pos) := hX.l.c9
  have i0 := HA.out.1
  have i1 := HA.out.2.1
  have hi0 : 0 ≤ i := by omega
  have hsz := hB.size
  have hlen : xs.length + 4 ≤ 100000000 := by have := HA.out.2.2.2.2.2; have := HNX.out; omega
  have hqq := HA.out.2.2.1
  have HQ := Aside0.mk hqq
  clear hqq
  have hd1 : decide (x.pos + i < (s.size : Int)) = true := decide_eq_true hq
  have hwL := iwrap (i + L) (by omega) (by omega)
  have hw1 := iwrap (i + 1) (by omega) (by omega)
  have hcut := hM.cut (x.pos + i) (by omega) (by omega)
  rw [show x.pos + i + L = x.pos + (i + L) by omega, HF.out] at hcut
  have h92 : (bt s (x.pos + i) == 92) = true := by rw [H92.out]; rfl
  have hbr : x.pos + i + 9 < (s.size : Int) := by
    by_cases hh : x.pos + i + 9 < (s.size : Int)
    · exact hh
    · exact absurd H92.out (hT.brit (x.pos + i) (by omega) (by omega))
  have hd2 : decide (x.pos + (i + 1) < (s.size : Int)) = true := decide_eq_true (by omega)
  have hw2 := iwrap (i + 1 + 1) (by omega) (by omega)
  have E01 : Aside0 (x.pos + i + 1 = x.pos + (i + 1)) := ⟨by omega⟩
  have hin1 : x.pos + i + 1 < (s.size : Int) := by omega
  have f := hx.out
  have HES : Aside0 (esc s false (!true) (x.pos + i) = if hexes s 8 (x.pos + i + 2) && isRune (hexNum s 8 (x.pos + i + 2) 0) then some (x.pos + i + 10) else none) := ⟨esc_U hin1 (by rw [E01.out]; exact hx.out)⟩
  go_wp2_with (first
    | (go_at_call 75; (first | (with_reducible refine (peekOk_c b fb s x.pos _ _ hat hp0 (by omega) (by omega) (by omega)).mono ?_) | (with_reducible refine (peekOk_c b fb s x.pos _ _ (hat.drewN _) hp0 (by omega) (by omega) (by omega)).mono ?_)); rintro e w' ⟨rfl, ⟨n4, rfl⟩⟩)
    | (go_at_call 88; (first | (with_reducible refine (slice_c b fb s x.pos _ _ _ hat hp0 (by omega) (by omega) (by omega) (by omega) (by omega)).mono ?_) | (with_reducible refine (slice_c b fb s x.pos _ _ _ (hat.drewN _) hp0 (by omega) (by omega) (by omega) (by omega) (by omega)).mono ?_)); rintro e w' ⟨rfl, ⟨n6, rfl⟩⟩)
    | (go_at_call 77; (first | (with_reducible refine (peek_c b fb s x.pos _ _ hat hp0 (by omega) (by omega) (by omega) (by omega)).mono ?_) | (with_reducible refine (peek_c b fb s x.pos _ _ (hat.drewN _) hp0 (by omega) (by omega) (by omega) (by omega)).mono ?_)); rintro e w' ⟨rfl, ⟨n5, rfl⟩⟩))
  go_loopg [16, 23] 9 (fun kq v16 v23 wj => ∃ j : Nat, v16 = .bool false ∧ v23 = .int .i64 j ∧ Aside0 (j ≤ 8 ∧ 8 - j < kq ∧ hexes s 8 (x.pos + i + 2) = hexes s (8 - j) (x.pos + i + 2 + j)) ∧ ∃ m, wj = wr.drewN m)
  case atStart => exact ⟨0, rfl, rfl, ⟨by omega, by omega, by simp⟩, _, rfl⟩
  case round =>
    obtain ⟨j, rfl, rfl, HJ, m, rfl⟩ := hrel
    have j2 := HJ.out.1
    by_cases hj : (j : Int) < 8
    · have hdj : decide ((j : Int) < 8) = true := decide_eq_true hj
      have hwj := iwrap ((j : Int) + 1) (by omega) (by omega)
      have hwk := iwrap (i + 1 + 1 + (j : Int)) (by omega) (by omega)
      have hd3 : decide (x.pos + (i + 1 + 1 + (j : Int)) < (s.size : Int)) = true := decide_eq_true (by omega)
      obtain ⟨k, hk⟩ : ∃ k, 8 - j = k + 1 := ⟨7 - j, by omega⟩
      have e2 : x.pos + i + 2 + (j : Int) = x.pos + (i + 1 + 1 + (j : Int)) := by omega
      have HH := Aside0.mk HJ.out.2.2
      rw [hk, e2] at HH
      have HK := Aside0.mk (And.intro hk e2)
      clear e2 hk
      cases hxx : isHex (bt s (x.pos + (i + 1 + 1 + (j : Int)))) with
      | true =>
        have HX := Aside0.mk hxx
        go_wp2_with (first
          | (go_at_call 75; (first | (with_reducible refine (peekOk_c b fb s x.pos _ _ hat hp0 (by omega) (by omega) (by omega)).mono ?_) | (with_reducible refine (peekOk_c b fb s x.pos _ _ (hat.drewN _) hp0 (by omega) (by omega) (by omega)).mono ?_)); rintro e w' ⟨rfl, ⟨n4, rfl⟩⟩)
          | (go_at_call 77; (first | (with_reducible refine (peek_c b fb s x.pos _ _ hat hp0 (by omega) (by omega) (by omega) (by omega)).mono ?_) | (with_reducible refine (peek_c b fb s x.pos _ _ (hat.drewN _) hp0 (by omega) (by omega) (by omega) (by omega)).mono ?_)); rintro e w' ⟨rfl, ⟨n5, rfl⟩⟩)
          | (go_at_call 108; (with_reducible refine (charIsHexDigit_c _ _).mono ?_); rintro e w' ⟨rfl, hw'⟩; obtain rfl := hw'.symm))
        go_roundg (8 - j)
        case measure => have := HJ.out.2.1; omega
        case rel => exact ⟨j + 1, rfl, rfl, ⟨by omega, by omega, by rw [HH.out]; simp only [hexes]; rw [HX.out, Bool.true_and, show 8 - (j + 1) = k by have := HK.out.1; omega]; congr 1; push_cast; omega⟩, _, rfl⟩
      | false =>
        have HX := Aside0.mk hxx
        have hxf : Aside0 (hexes s 8 (x.pos + i + 2) = false) := ⟨by rw [HH.out]; simp only [hexes]; rw [HX.out]; rfl⟩
        have hr : R = none := by rw [← HQ.out]; exact quoA_bad hq HF.out H92.out (by rw [HES.out, hxf.out]; rfl)
        subst hr
        have HOUT := hOut
        have hwx0 := iwrap (x.pos + (i + 1 + 1)) (by omega) (by omega)
        have hwx1 := iwrap (x.pos + (i + 1 + 1) - 2) (by omega) (by omega)
        have hwx2 := iwrap (x.pos + (i + 1 + 1) + (j : Int)) (by omega) (by omega)
        have hwx3 := iwrap (x.pos + (i + 1 + 1) + (j : Int) + 1) (by omega) (by omega)
        have hp0' : 0 ≤ x.pos + (i + 1 + 1) - 2 := by omega
        have hpq' : x.pos + (i + 1 + 1) - 2 ≤ x.pos + (i + 1 + 1) + (j : Int) + 1 := by omega
        have hqs' : x.pos + (i + 1 + 1) + (j : Int) + 1 ≤ (s.size : Int) := by omega
        go_wp2_with (first
          | (go_at_call 75; (first | (with_reducible refine (peekOk_c b fb s x.pos _ _ hat hp0 (by omega) (by omega) (by omega)).mono ?_) | (with_reducible refine (peekOk_c b fb s x.pos _ _ (hat.drewN _) hp0 (by omega) (by omega) (by omega)).mono ?_)); rintro e w' ⟨rfl, ⟨n4, rfl⟩⟩)
          | (go_at_call 77; (first | (with_reducible refine (peek_c b fb s x.pos _ _ hat hp0 (by omega) (by omega) (by omega) (by omega)).mono ?_) | (with_reducible refine (peek_c b fb s x.pos _ _ (hat.drewN _) hp0 (by omega) (by omega) (by omega) (by omega)).mono ?_)); rintro e w' ⟨rfl, ⟨n5, rfl⟩⟩)
          | (go_at_call 108; (with_reducible refine (charIsHexDigit_c _ _).mono ?_); rintro e w' ⟨rfl, hw'⟩; obtain rfl := hw'.symm))
        refine wp_gen (w0 := wr) ?_
        intro wz hwz
        have hXz : Lx0 wz b fb s x := by obtain ⟨n, rfl⟩ := hwz; exact hX.drewN n
        have hUz : Ups b w wz := by obtain ⟨n, rfl⟩ := hwz; exact ((Ups.refl b w).below hB).drewN n
        have C9z := hXz.l.c9
        clear hwz
        go_still_tail 17, (by kernel_rfl)
        have hXd := hXz.drew
        go_wp2_with (first
          | (go_at_call 107; (with_reducible refine (panicAt_c b fb s x (x.pos + (i + 1 + 1) - 2) (x.pos + (i + 1 + 1) + (j : Int) + 1) _ _ hXd hs hp0' hpq' hqs').mono ?_); rintro e w' ⟨⟨g, rfl⟩, hU2⟩))
        exact HOUT.out g _ _ rfl ((hUz.drew.two fb).trans hU2)
    · have hdj : decide ((j : Int) < 8) = false := decide_eq_false hj
      have hhx : hexes s 8 (x.pos + i + 2) = true := by rw [HJ.out.2.2, show 8 - j = 0 by omega]; rfl
      have hw4 := iwrap (i + 1 + 1 + 8) (by omega) (by omega)
      have hcd := cut_digits s 16 (x.pos + (i + 1 + 1)) 8 (by omega) (by omega) (fun z h1 h2 => ⟨hexes_at s 8 _ hhx z (by omega) (by omega), by have := hexVal_range (hexes_at s 8 _ hhx z (by omega) (by omega)); omega⟩)
      rw [show x.pos + (i + 1 + 1) + ((8 : Nat) : Int) = x.pos + (i + 1 + 1 + 8) by omega] at hcd
      have hlt := numB_lt 16 s (by omega) 8 (x.pos + (i + 1 + 1)) 0 (by omega) (fun z h1 h2 => by have := hexVal_range (hexes_at s 8 _ hhx z (by omega) (by omega)); omega)
      obtain ⟨V, hV⟩ : ∃ V, numB 16 s 8 (x.pos + (i + 1 + 1)) 0 = V := ⟨_, rfl⟩
      have h3 : ((0 : Int) + 1) * 16 ^ 8 = 4294967296 := by decide
      rw [h3, hV] at hlt
      rw [hV] at hcd
      have hV0 := hlt.1
      have hV1 := hlt.2
      have HV : Aside0 (hexNum s 8 (x.pos + i + 2) 0 = V) := ⟨by rw [hexNum_B, show x.pos + i + 2 = x.pos + (i + 1 + 1) by omega]; exact hV⟩
      have hP : ∀ W, Calls Tryz.prog 110 #[.string (s.extract (x.pos + (i + 1 + 1)).toNat (x.pos + (i + 1 + 1 + 8)).toNat), .int .i64 16, .int .i64 32] W (fun e w' => e = .returned (.tuple #[.int .u64 V, .nilIface]) ∧ Below W.heap.size W w') := fun W => by have h4 := parseUint16_32 (s.extract (x.pos + (i + 1 + 1)).toNat (x.pos + (i + 1 + 1 + 8)).toNat) W (by rw [hcd.1]; omega) (by rw [hcd.1]; omega) hcd.2.1 (by rw [hcd.2.2]; omega); rw [hcd.2.2] at h4; exact h4
      have HHX := Aside0.mk hhx
      clear hcd hlt hhx h3 hV
      have hi32 : IntKind.i32.wrap V = V ∨ 1114111 < V := by by_cases h5 : V ≤ 1114111; exact .inl (IntWalk.i32_in V (by omega)); exact .inr (by omega)
      rcases rune_cases (V := V) with ⟨hru, hle, hor⟩ | ⟨hru, hor⟩
      · have HRU := Aside0.mk hru
        have HES2 : Aside0 (esc s false (!true) (x.pos + i) = some (x.pos + i + 10)) := ⟨by rw [HES.out, HHX.out, HV.out, HRU.out]; rfl⟩
        have hi := hi32.resolve_right (by omega)
        have d3 : decide (1114111 < V) = false := decide_eq_false (by omega)
        have dd : decide (55296 ≤ V) = false ∨ decide (55296 ≤ V) = true ∧ decide (V ≤ 57343) = false := by
          rcases hor with h5 | h5
          · exact .inl (decide_eq_false (by omega))
          · exact .inr ⟨decide_eq_true (by omega), decide_eq_false (by omega)⟩
        clear hru hor hi32
        rcases dd with d1 | ⟨d1, d2⟩
        all_goals
          go_wp2_with (first
            | (go_at_call 88; (first | (with_reducible refine (slice_c b fb s x.pos _ _ _ hat hp0 (by omega) (by omega) (by omega) (by omega) (by omega)).mono ?_) | (with_reducible refine (slice_c b fb s x.pos _ _ _ (hat.drewN _) hp0 (by omega) (by omega) (by omega) (by omega) (by omega)).mono ?_)); rintro e w' ⟨rfl, ⟨n6, rfl⟩⟩)
            | (go_at_call 110; (with_reducible refine (hP _).mono ?_); rintro e wP ⟨rfl, hbP⟩; have HOP := (HO.out.drewN _).below hbP; have hBP := (below_drewN hB _).trans (hbP.mono hsz); have hszP := hBP.size; have HXP := h.below hBP; have hUP := (Ups.refl b w).below hBP; have hFour : Four (wP.alloc (.cells #[.int .u8 0, .int .u8 0, .int .u8 0, .int .u8 0] 204)) wP.heap.size 204 := ⟨0, 0, 0, 0, blk_new wP _⟩)
            | (go_at_call 111; (with_reducible refine (encodeRune_c wP.heap.size 204 V _ hFour hV0 HRU.out).mono ?_); rintro e wE ⟨nn, n1, n2, rfl, hUE, hFE⟩; have q0 : 0 ≤ nn := (by omega); have HOE : OwnN wE w.heap.size (.slice A n C) xs := ((HOP.alloc _).ups hUE HOP.not_new); have hBE : Below w.heap.size w wE := ((hBP.alloc hszP _).trans (hUE.to_below hszP (by simp [go_sem]; omega))); have hszE := hBE.size; obtain ⟨ys, hyl, hyc⟩ := hFE.cells (m := nn.toNat) (by omega); have HYL := Aside0.mk hyl; have HYC := Aside0.mk hyc; clear hyl hyc)
            | (at_builtin; refine append_ownN (w0 := w) w.heap.size rfl (.tmp 381) (.tmp 383) rfl _ xs rfl wP.heap.size nn.toNat 4 ys rfl HYL.out HYC.out HOE hBE hszE (by omega) ?_; intro v1 w1 HO1 HB1 _; obtain ⟨A1, C1, rfl⟩ := HO1.shape' HNX.out HYL.out))
          refine Handed.intro (((s.size : Int) - (x.pos + (i + 1 + 1 + 8))).toNat + 1) (by have := HA.out.2.2.2.1; omega) ?_
          go_step
          exact ⟨i + 1 + 1 + 8, A1, C1, _, xs ++ ys, ⟨⟨by rw [List.length_append, HYL.out, HNX.out], by omega, by omega, by rw [← HQ.out]; rw [quoA_esc (by omega) hq HF.out H92.out HES2.out]; congr 1; omega, by omega, ⟨fun hh => by have h5 := congrArg List.length hh; rw [List.length_append, HYL.out, List.length_nil] at h5; omega, fun hh => by exfalso; omega⟩, by have := HA.out.2.2.2.2.2; omega⟩, ⟨HB1⟩, ⟨HO1⟩⟩, to_frame83⟩
      · have HRU := Aside0.mk hru
        have hr : R = none := by rw [← HQ.out]; exact quoA_bad hq HF.out H92.out (by rw [HES.out, HHX.out, HV.out, HRU.out]; rfl)
        subst hr
        have HOUT := hOut
        have hwx0 := iwrap (x.pos + (i + 1 + 1)) (by omega) (by omega)
        have hwx1 := iwrap (x.pos + (i + 1 + 1) - 2) (by omega) (by omega)
        have hwx2 := iwrap (x.pos + (i + 1 + 1) + 8) (by omega) (by omega)
        have hp0' : 0 ≤ x.pos + (i + 1 + 1) - 2 := by omega
        have hpq' : x.pos + (i + 1 + 1) - 2 ≤ x.pos + (i + 1 + 1) + 8 := by omega
        have hqs' : x.pos + (i + 1 + 1) + 8 ≤ (s.size : Int) := by omega
        have dd : decide (55296 ≤ V) = true ∧ decide (V ≤ 57343) = true ∨ decide (55296 ≤ V) = true ∧ decide (V ≤ 57343) = false ∧ decide (1114111 < V) = true := by
          rcases hor with h5 | h5
          · exact .inr ⟨decide_eq_true (by omega), decide_eq_false (by omega), decide_eq_true h5⟩
          · exact .inl ⟨decide_eq_true h5.1, decide_eq_true h5.2⟩
        clear hru hor hi32
        rcases dd with ⟨d1, d2⟩ | ⟨d1, d2, d3⟩
        all_goals
          go_wp2_with (first
            | (go_at_call 88; (first | (with_reducible refine (slice_c b fb s x.pos _ _ _ hat hp0 (by omega) (by omega) (by omega) (by omega) (by omega)).mono ?_) | (with_reducible refine (slice_c b fb s x.pos _ _ _ (hat.drewN _) hp0 (by omega) (by omega) (by omega) (by omega) (by omega)).mono ?_)); rintro e w' ⟨rfl, ⟨n6, rfl⟩⟩)
            | (go_at_call 110; (with_reducible refine (hP _).mono ?_); rintro e wP ⟨rfl, hbP⟩; have HOP := (HO.out.drewN _).below hbP; have hBP := (below_drewN hB _).trans (hbP.mono hsz); have hszP := hBP.size; have HXP := h.below hBP; have hUP := (Ups.refl b w).below hBP; have hFour : Four (wP.alloc (.cells #[.int .u8 0, .int .u8 0, .int .u8 0, .int .u8 0] 204)) wP.heap.size 204 := ⟨0, 0, 0, 0, blk_new wP _⟩))
          have C9z := HXP.l.c9
          go_still_tail 16, (by kernel_rfl)
          have hXd := HXP.drew
          go_wp2_with (first
            | (go_at_call 107; (with_reducible refine (panicAt_c b fb s x (x.pos + (i + 1 + 1) - 2) (x.pos + (i + 1 + 1) + 8) _ _ hXd hs hp0' hpq' hqs').mono ?_); rintro e w' ⟨⟨g, rfl⟩, hU2⟩))
          exact HOUT.out g _ _ rfl ((hUP.drew.two fb).trans hU2)

set_option maxRecDepth 100000 in
set_option maxHeartbeats 8000000 in
theorem rd_uB (w : World) (b fb : Nat) (x : St) (s q nm' : ByteArray) (c L : Int) (u34 u35 : Value) (R : Option Int) (h : Lx0 w b fb s x) (hT : Txt s) (hM : Mark s q c L) (hp0 : 0 ≤ x.pos)
    (gk : Nat) (wr : World) (i : Int) (A : Option Addr) (C n : Nat) (xs : List Int) (HNX : Aside0 (n = xs.length))
    (HA : Aside0 (L ≤ i ∧ x.pos + i ≤ (s.size : Int) ∧ quoA s c L false (!false) (x.pos + i) = R ∧ ((s.size : Int) - (x.pos + i)).toNat < gk ∧ (xs = [] ↔ i = L) ∧ (n : Int) ≤ 4 * i))
    (HB : Aside0 (Below w.heap.size w wr)) (a0 a1 a2 a3 a4 a5 a6 a7 a8 a9 a10 a11 a12 a13 a14 a15 a16 a17 a18 a19 a20 a21 a22 a23 : U20)
    (hq : x.pos + i < (s.size : Int)) (HF : Aside0 (isQ s c L (x.pos + i) = false)) (H92 : Aside0 (bt s (x.pos + i) = 92)) (hx : Aside0 (bt s (x.pos + (i + 1)) = 117 ∨ bt s (x.pos + (i + 1)) = 85))
    (J : Nat → Act → World → Prop) (K : Act → World → Prop) (Q : Exit → Act → World → Prop) (hJ : ∀ k a' w', I83 w b x s q nm' c L false u34 u35 R k a' w' → J k a' w') (hOut : Aside0 (Out83 b fb w R Q)) :
    Code.wp Tryz.prog (loopOf Tryz.f83) (Exit.then K Q) (frame83 b q false false nm' L u34 u35 i (.slice A n C) a0 a1 a2 a3 a4 a5 a6 a7 a8 a9 a10 a11 a12 a13 a14 a15 a16 a17 a18 a19 a20 a21 a22 a23) wr := by
  have hs : (s.size : Int) ≤ 5000 := by have := hT.size; omega
  have hL0 := hM.one
  have hqs := hM.sz
  unfold frame83
  conv => arg 2; whnf
  unfold I83 at hJ
  have hB := HB.out
  have hX := h.below hB
  have hat := hX.at_
  have C9 : wr.cell? ⟨b, 9, none⟩ = some (.int .i64 x.pos) := hX.l.c9
  have i0 := HA.out.1
  have i1 := HA.out.2.1
  have hi0 : 0 ≤ i := by omega
  have hsz := hB.size
  have hlen : xs.length + 4 ≤ 100000000 := by have := HA.out.2.2.2.2.2; have := HNX.out; omega
  have hqq := HA.out.2.2.1
  have HQ := Aside0.mk hqq
  clear hqq
  have hd1 : decide (x.pos + i < (s.size : Int)) = true := decide_eq_true hq
  have hwL := iwrap (i + L) (by omega) (by omega)
  have hw1 := iwrap (i + 1) (by omega) (by omega)
  have hcut := hM.cut (x.pos + i) (by omega) (by omega)
  rw [show x.pos + i + L = x.pos + (i + L) by omega, HF.out] at hcut
  have h92 : (bt s (x.pos + i) == 92) = true := by rw [H92.out]; rfl
  have hbr : x.pos + i + 9 < (s.size : Int) := by
    by_cases hh : x.pos + i + 9 < (s.size : Int)
    · exact hh
    · exact absurd H92.out (hT.brit (x.pos + i) (by omega) (by omega))
  have hd2 : decide (x.pos + (i + 1) < (s.size : Int)) = true := decide_eq_true (by omega)
  have hw2 := iwrap (i + 1 + 1) (by omega) (by omega)
  have E01 : Aside0 (x.pos + i + 1 = x.pos + (i + 1)) := ⟨by omega⟩
  have hin1 : x.pos + i + 1 < (s.size : Int) := by omega
  have hfz := hx.out
  have hr : R = none := by rw [← HQ.out]; exact quoA_bad hq HF.out H92.out (esc_uB (by rw [E01.out]; exact hx.out))
  subst hr
  have HOUT := hOut
  have hwx0 := iwrap (x.pos + (i + 1 + 1)) (by omega) (by omega)
  have hwx1 := iwrap (x.pos + (i + 1 + 1) - 2) (by omega) (by omega)
  have hp0' : 0 ≤ x.pos + (i + 1 + 1) - 2 := by omega
  have hpq' : x.pos + (i + 1 + 1) - 2 ≤ x.pos + (i + 1 + 1) := by omega
  have hqs' : x.pos + (i + 1 + 1) ≤ (s.size : Int) := by omega
  rcases hfz with f | f
  all_goals
    go_wp2_with (first
      | (go_at_call 75; (first | (with_reducible refine (peekOk_c b fb s x.pos _ _ hat hp0 (by omega) (by omega) (by omega)).mono ?_) | (with_reducible refine (peekOk_c b fb s x.pos _ _ (hat.drewN _) hp0 (by omega) (by omega) (by omega)).mono ?_)); rintro e w' ⟨rfl, ⟨n4, rfl⟩⟩)
      | (go_at_call 88; (first | (with_reducible refine (slice_c b fb s x.pos _ _ _ hat hp0 (by omega) (by omega) (by omega) (by omega) (by omega)).mono ?_) | (with_reducible refine (slice_c b fb s x.pos _ _ _ (hat.drewN _) hp0 (by omega) (by omega) (by omega) (by omega) (by omega)).mono ?_)); rintro e w' ⟨rfl, ⟨n6, rfl⟩⟩)
      | (go_at_call 77; (first | (with_reducible refine (peek_c b fb s x.pos _ _ hat hp0 (by omega) (by omega) (by omega) (by omega)).mono ?_) | (with_reducible refine (peek_c b fb s x.pos _ _ (hat.drewN _) hp0 (by omega) (by omega) (by omega) (by omega)).mono ?_)); rintro e w' ⟨rfl, ⟨n5, rfl⟩⟩))
    refine wp_gen (w0 := wr) ?_
    intro wz hwz
    have hXz : Lx0 wz b fb s x := by obtain ⟨n, rfl⟩ := hwz; exact hX.drewN n
    have hUz : Ups b w wz := by obtain ⟨n, rfl⟩ := hwz; exact ((Ups.refl b w).below hB).drewN n
    have C9z := hXz.l.c9
    clear hwz
    go_still_tail 14, (by kernel_rfl)
    have hXd := hXz.drew
    go_wp2_with (first
      | (go_at_call 107; (with_reducible refine (panicAt_c b fb s x (x.pos + (i + 1 + 1) - 2) (x.pos + (i + 1 + 1)) _ _ hXd hs hp0' hpq' hqs').mono ?_); rintro e w' ⟨⟨g, rfl⟩, hU2⟩))
    exact HOUT.out g _ _ rfl ((hUz.drew.two fb).trans hU2)
end Go.Proofs.YtjepdlmcombmcaaGreatDoor.Lx
