/- Quoted contents that are not raw: what consumeQuotedContent leaves. Conditions: those of the raw ones. -/
import Derived.Test.YtjepdlmcombmcaaGreatDoorNr
import Derived.Test.YtjepdlmcombmcaaGreatDoorNt
import Derived.Test.YtjepdlmcombmcaaGreatDoorNu
namespace Go.Proofs.YtjepdlmcombmcaaGreatDoor.Lx
open Go.RowKit Go.Proofs.YtjepdlmcombmcaaGreatDoorW.PrintWords

set_option maxRecDepth 100000 in
set_option maxHeartbeats 8000000 in
theorem esc_round (w : World) (b fb : Nat) (x : St) (s q nm' : ByteArray) (c L : Int) (uni : Bool) (u34 u35 : Value) (R : Option Int) (h : Lx0 w b fb s x) (hT : Txt s) (hM : Mark s q c L) (hp0 : 0 ≤ x.pos)
    (gk : Nat) (wr : World) (i : Int) (A : Option Addr) (C n : Nat) (xs : List Int) (HNX : Aside0 (n = xs.length))
    (HA : Aside0 (L ≤ i ∧ x.pos + i ≤ (s.size : Int) ∧ quoA s c L false (!uni) (x.pos + i) = R ∧ ((s.size : Int) - (x.pos + i)).toNat < gk ∧ (xs = [] ↔ i = L) ∧ (n : Int) ≤ 4 * i))
    (HB : Aside0 (Below w.heap.size w wr)) (HO : Aside0 (OwnN wr w.heap.size (.slice A n C) xs)) (a0 a1 a2 a3 a4 a5 a6 a7 a8 a9 a10 a11 a12 a13 a14 a15 a16 a17 a18 a19 a20 a21 a22 a23 : U20)
    (hq : x.pos + i < (s.size : Int)) (HF : Aside0 (isQ s c L (x.pos + i) = false)) (H92 : Aside0 (bt s (x.pos + i) = 92))
    (J : Nat → Act → World → Prop) (K : Act → World → Prop) (Q : Exit → Act → World → Prop) (hJ : ∀ k a' w', I83 w b x s q nm' c L uni u34 u35 R k a' w' → J k a' w') (hK : ∀ a' w', Handed J gk a' w' → K a' w') (hOut : Aside0 (Out83 b fb w R Q)) :
    Code.wp Tryz.prog (loopOf Tryz.f83) (Exit.then K Q) (frame83 b q false uni nm' L u34 u35 i (.slice A n C) a0 a1 a2 a3 a4 a5 a6 a7 a8 a9 a10 a11 a12 a13 a14 a15 a16 a17 a18 a19 a20 a21 a22 a23) wr := by
  cases hS : isSimpleEsc (bt s (x.pos + (i + 1))) with
  | true => exact rd_simple w b fb x s q nm' c L uni u34 u35 R h hT hM hp0 gk wr i A C n xs HNX HA HB HO a0 a1 a2 a3 a4 a5 a6 a7 a8 a9 a10 a11 a12 a13 a14 a15 a16 a17 a18 a19 a20 a21 a22 a23 hq HF H92 ⟨hS⟩ J K Q hJ hK
  | false =>
  by_cases hxX : bt s (x.pos + (i + 1)) = 120 ∨ bt s (x.pos + (i + 1)) = 88
  · exact rd_x w b fb x s q nm' c L uni u34 u35 R h hT hM hp0 gk wr i A C n xs HNX HA HB HO a0 a1 a2 a3 a4 a5 a6 a7 a8 a9 a10 a11 a12 a13 a14 a15 a16 a17 a18 a19 a20 a21 a22 a23 hq HF H92 ⟨hxX⟩ J K Q hJ hK hOut
  by_cases hu : bt s (x.pos + (i + 1)) = 117 ∨ bt s (x.pos + (i + 1)) = 85
  · cases uni with
    | true =>
      rcases hu with hu | hu
      · exact rd_u w b fb x s q nm' c L u34 u35 R h hT hM hp0 gk wr i A C n xs HNX HA HB HO a0 a1 a2 a3 a4 a5 a6 a7 a8 a9 a10 a11 a12 a13 a14 a15 a16 a17 a18 a19 a20 a21 a22 a23 hq HF H92 ⟨hu⟩ J K Q hJ hK hOut
      · exact rd_U w b fb x s q nm' c L u34 u35 R h hT hM hp0 gk wr i A C n xs HNX HA HB HO a0 a1 a2 a3 a4 a5 a6 a7 a8 a9 a10 a11 a12 a13 a14 a15 a16 a17 a18 a19 a20 a21 a22 a23 hq HF H92 ⟨hu⟩ J K Q hJ hK hOut
    | false => exact rd_uB w b fb x s q nm' c L u34 u35 R h hT hM hp0 gk wr i A C n xs HNX HA HB a0 a1 a2 a3 a4 a5 a6 a7 a8 a9 a10 a11 a12 a13 a14 a15 a16 a17 a18 a19 a20 a21 a22 a23 hq HF H92 ⟨hu⟩ J K Q hJ hOut
  by_cases ho : bt s (x.pos + (i + 1)) = 48 ∨ bt s (x.pos + (i + 1)) = 49 ∨ bt s (x.pos + (i + 1)) = 50 ∨ bt s (x.pos + (i + 1)) = 51
  · exact rd_o w b fb x s q nm' c L uni u34 u35 R h hT hM hp0 gk wr i A C n xs HNX HA HB HO a0 a1 a2 a3 a4 a5 a6 a7 a8 a9 a10 a11 a12 a13 a14 a15 a16 a17 a18 a19 a20 a21 a22 a23 hq HF H92 ⟨ho⟩ J K Q hJ hK hOut
  exact rd_dflt w b fb x s q nm' c L uni u34 u35 R h hT hM hp0 gk wr i A C n xs HNX HA HB a0 a1 a2 a3 a4 a5 a6 a7 a8 a9 a10 a11 a12 a13 a14 a15 a16 a17 a18 a19 a20 a21 a22 a23 hq HF H92 ⟨hS⟩ ⟨by omega⟩ ⟨by omega⟩ J K Q hJ hOut

set_option maxRecDepth 100000 in
set_option maxHeartbeats 8000000 in
theorem quoted_false (w : World) (b fb : Nat) (x : St) (s q nm : ByteArray) (c L : Int) (uni isId : Bool) (h : Lx0 w b fb s x) (hT : Txt s) (hM : Mark s q c L) (hp0 : 0 ≤ x.pos) (hp1 : x.pos + L ≤ (s.size : Int)) (hnm : nm.size ≤ 1000)
    (hid : (nm.toList == [105, 100, 101, 110, 116, 105, 102, 105, 101, 114]) = isId) (hid3 : L = 3 → ((⟨#[116, 114, 105, 112, 108, 101, 45, 113, 117, 111, 116, 101, 100, 32]⟩ ++ nm : ByteArray).toList == [105, 100, 101, 110, 116, 105, 102, 105, 101, 114]) = isId) (hidL : isId = true → L = 1) :
    Calls Tryz.prog 83 #[.pointer (some ⟨b, 0, none⟩), .string q, .bool false, .bool uni, .string nm, .bool false] w (Quotes b fb x isId (quoA s c L false (!uni) (x.pos + L)) w) := by
  have hs : (s.size : Int) ≤ 5000 := by have := hT.size; omega
  have hL0 := hM.one
  have hqs := hM.sz
  have hqz : ¬ 9223372036854775807 < 14 + nm.size := by omega
  obtain ⟨R, hR⟩ : ∃ R, quoA s c L false (!uni) (x.pos + L) = R := ⟨_, rfl⟩
  have HR := Aside0.mk hR
  rw [hR]
  clear hR
  have HID := Aside0.mk hid3
  have HIDL := Aside0.mk hidL
  clear hid3 hidL
  go_enter Tryz.func83, Tryz.ntmps83
  go_upto_if 33 with fail
  go_cut [4] from 34 to 35 (fun s4 wx => ∃ nm' : ByteArray, s4 = .string nm' ∧ Aside0 ((nm'.toList == [105, 100, 101, 110, 116, 105, 102, 105, 101, 114]) = isId) ∧ wx = w)
  case first =>
    rcases hL0 with hl | hl
    · have hd : ((q.size : Int) == 3) = false := beqf (by omega)
      go_wp2_with fail
      go_meet
      exact ⟨nm, rfl, ⟨hid⟩, rfl⟩
    · have hd : ((q.size : Int) == 3) = true := by rw [hqs, hl]; rfl
      go_wp2_with fail
      go_meet
      exact ⟨_, rfl, ⟨HID.out hl⟩, rfl⟩
  case rest =>
    obtain ⟨nm', rfl, HN, hwc⟩ := hcut
    obtain rfl := hwc.symm
    go_wp2_with fail
    refine wp_loop_ghost_k (fun k' a' w' => ∃ (i : Int) (A : Option Addr) (C n : Nat) (xs : List Int), (Aside0 (n = xs.length ∧ L ≤ i ∧ x.pos + i ≤ (s.size : Int) ∧ quoA s c L false (!uni) (x.pos + i) = R ∧ ((s.size : Int) - (x.pos + i)).toNat < k' ∧ (xs = [] ↔ i = L) ∧ (n : Int) ≤ 4 * i) ∧ Aside0 (Below w.heap.size w w') ∧ Aside0 (OwnN w' w.heap.size (.slice A n C) xs)) ∧ ∃ a0 a1 a2 a3 a4 a5 a6 a7 a8 a9 a10 a11 a12 a13 a14 a15 a16 a17 a18 a19 a20 a21 a22 a23 : U20, a' = frame83 b q false uni nm' L u34 u35 i (.slice A n C) a0 a1 a2 a3 a4 a5 a6 a7 a8 a9 a10 a11 a12 a13 a14 a15 a16 a17 a18 a19 a20 a21 a22 a23) (((s.size : Int) - x.pos).toNat + 1) ?_ ?_
    · exact ⟨L, none, 0, 0, [], ⟨⟨rfl, Int.le_refl _, hp1, HR.out, by omega, by simp, by omega⟩, ⟨Below.refl _ _⟩, ⟨OwnN.nil _ _⟩⟩, to_frame83⟩
    · intro gk a wr hI J K hJ hK
      obtain ⟨i, A, C, n, xs, ⟨HA0, HB, HO⟩, a0, a1, a2, a3, a4, a5, a6, a7, a8, a9, a10, a11, a12, a13, a14, a15, a16, a17, a18, a19, a20, a21, a22, a23, rfl⟩ := hI
      have HNX := Aside0.mk HA0.out.1
      have HA := Aside0.mk HA0.out.2
      clear HA0
      by_cases hesc : x.pos + i < (s.size : Int) ∧ isQ s c L (x.pos + i) = false ∧ bt s (x.pos + i) = 92
      · obtain ⟨e1, e2, e3⟩ := hesc
        exact esc_round w b fb x s q nm' c L uni u34 u35 R h hT hM hp0 gk wr i A C n xs HNX HA HB HO a0 a1 a2 a3 a4 a5 a6 a7 a8 a9 a10 a11 a12 a13 a14 a15 a16 a17 a18 a19 a20 a21 a22 a23 e1 ⟨e2⟩ ⟨e3⟩ _ _ _ hJ hK ⟨fun g t w' hr hU => by subst hr; exact ⟨rfl, ⟨g, rfl⟩, hU⟩⟩
      have hesc' := Aside0.mk hesc
      clear hesc
      have hesc := hesc'
      clear hesc'
      unfold frame83
      have hB := HB.out
      have hX := h.below hB
      have hat := hX.at_
      have C9 : wr.cell? ⟨b, 9, none⟩ = some (.int .i64 x.pos) := hX.l.c9
      have i0 := HA.out.1
      have i1 := HA.out.2.1
      have hi0 : 0 ≤ i := by omega
      have hsz := hB.size
      have hlen : xs.length + 4 ≤ 100000000 := by have := HA.out.2.2.2.2.2; have := HNX.out; omega
      have hqq := HA.out.2.2.1
      have HQ := Aside0.mk hqq
      clear hqq
      by_cases hq : x.pos + i < (s.size : Int)
      · have hd1 : decide (x.pos + i < (s.size : Int)) = true := decide_eq_true hq
        have hwL := iwrap (i + L) (by omega) (by omega)
        have hw1 := iwrap (i + 1) (by omega) (by omega)
        have hcut := hM.cut (x.pos + i) (by omega) (by omega)
        rw [show x.pos + i + L = x.pos + (i + L) by omega] at hcut
        cases hQ : isQ s c L (x.pos + i) with
        | true =>
          rw [hQ] at hcut
          have hend := isQ_in hM.c0 hM.one (by omega) hQ
          have hr : R = some (x.pos + i + L) := by rw [← HQ.out]; exact quoA_end hq hQ
          subst hr
          clear hQ
          have HE := Aside0.mk HA.out.2.2.2.2.1
          cases hnz : ((n : Int) == 0) with
          | true =>
            have hxs : xs = [] := List.eq_nil_of_length_eq_zero (by have := HNX.out; have := beq_iff_eq.1 hnz; omega)
            have HI := Aside0.mk (HE.out.1 hxs)
            clear hxs
            cases isId with
            | true =>
              have HL := Aside0.mk (HIDL.out rfl)
              have hn := HN.out
              have hp0' : 0 ≤ x.pos := hp0
              have hpq' : x.pos ≤ x.pos + i + L := by omega
              have hqs' : x.pos + i + L ≤ (s.size : Int) := by omega
              have hwi := iwrap (x.pos + i) (by omega) (by omega)
              have hwi2 := iwrap (x.pos + i + L) (by omega) (by omega)
              go_wp2_with (first
                | (go_at_call 75; (first | (with_reducible refine (peekOk_c b fb s x.pos _ _ hat hp0 (by omega) (by omega) (by omega)).mono ?_) | (with_reducible refine (peekOk_c b fb s x.pos _ _ (hat.drewN _) hp0 (by omega) (by omega) (by omega)).mono ?_)); rintro e w' ⟨rfl, ⟨n4, rfl⟩⟩)
                | (go_at_call 88; (first | (with_reducible refine (slice_c b fb s x.pos _ _ _ hat hp0 (by omega) (by omega) (by omega) (by omega) (by omega)).mono ?_) | (with_reducible refine (slice_c b fb s x.pos _ _ _ (hat.drewN _) hp0 (by omega) (by omega) (by omega) (by omega) (by omega)).mono ?_)); rintro e w' ⟨rfl, ⟨n6, rfl⟩⟩))
              refine wp_gen (w0 := wr) ?_
              intro wz hwz
              have hXz : Lx0 wz b fb s x := by obtain ⟨n, rfl⟩ := hwz; exact hX.drewN n
              have hUz : Ups b w wz := by obtain ⟨n, rfl⟩ := hwz; exact ((Ups.refl b w).below hB).drewN n
              have C9z := hXz.l.c9
              clear hwz
              go_still_tail 14, (by kernel_rfl)
              have hXd := hXz.drew
              go_wp2_with (first
                | (go_at_call 107; (with_reducible refine (panicAt_c b fb s x (x.pos) (x.pos + i + L) _ _ hXd hs hp0' hpq' hqs').mono ?_); rintro e w' ⟨⟨g, rfl⟩, hU2⟩))
              exact ⟨rfl, Quotes.bad (by have := HI.out; have := HL.out; omega) ⟨⟨g, rfl⟩, (hUz.drew.two fb).trans hU2⟩⟩
            | false =>
              have hn := HN.out
              have hq0 : 0 ≤ i + L := by omega
              have hq1 : i + L ≤ 1000000 := by omega
              go_wp2_with (first
                | (go_at_call 75; (first | (with_reducible refine (peekOk_c b fb s x.pos _ _ hat hp0 (by omega) (by omega) (by omega)).mono ?_) | (with_reducible refine (peekOk_c b fb s x.pos _ _ (hat.drewN _) hp0 (by omega) (by omega) (by omega)).mono ?_)); rintro e w' ⟨rfl, ⟨n4, rfl⟩⟩)
                | (go_at_call 88; (first | (with_reducible refine (slice_c b fb s x.pos _ _ _ hat hp0 (by omega) (by omega) (by omega) (by omega) (by omega)).mono ?_) | (with_reducible refine (slice_c b fb s x.pos _ _ _ (hat.drewN _) hp0 (by omega) (by omega) (by omega) (by omega) (by omega)).mono ?_)); rintro e w' ⟨rfl, ⟨n6, rfl⟩⟩)
                | (go_at_call 72; (with_reducible refine (skipN_c b fb s x.pos (i + L) _ (hat.drewN _) ((hX.l.drewN _).free 9) hp0 (by omega) (by omega) (by omega)).mono ?_); go_loud (rintro e w9 ⟨rfl, hw9⟩; have hX9 : Lx0 w9 b fb s { x with pos := x.pos + (i + L) } := (by rw [hw9]; exact (hX.drewN _).set9 _); have hU9 : Ups b w w9 := (by rw [hw9]; exact (((Ups.refl b w).below hB).drewN _).set 9 _); have hO9 : OwnN w9 w.heap.size (.slice A n C) xs := (by rw [hw9]; exact (HO.out.drewN _).set (by have := h.l.lt; exact this) _); obtain ⟨t, hcv⟩ := hO9.to_string; clear hw9)))
              (try simp only [Exit.inBlock, Exit.then]); refine bodyPost_ret (results_tmp2 rfl _ _ _) rfl ?_
              exact Quotes.ok (by rintro ⟨h1, _⟩; cases h1) hU9 (by rw [Int.add_assoc]; exact hX9.l)
          | false =>
            have HI : Aside0 (i ≠ L) := ⟨fun hh => by have h1 := HE.out.2 hh; have h2 := HNX.out; rw [h1] at h2; rw [h2] at hnz; cases hnz⟩
            have hq0 : 0 ≤ i + L := by omega
            have hq1 : i + L ≤ 1000000 := by omega
            go_wp2_with (first
              | (go_at_call 75; (first | (with_reducible refine (peekOk_c b fb s x.pos _ _ hat hp0 (by omega) (by omega) (by omega)).mono ?_) | (with_reducible refine (peekOk_c b fb s x.pos _ _ (hat.drewN _) hp0 (by omega) (by omega) (by omega)).mono ?_)); rintro e w' ⟨rfl, ⟨n4, rfl⟩⟩)
              | (go_at_call 88; (first | (with_reducible refine (slice_c b fb s x.pos _ _ _ hat hp0 (by omega) (by omega) (by omega) (by omega) (by omega)).mono ?_) | (with_reducible refine (slice_c b fb s x.pos _ _ _ (hat.drewN _) hp0 (by omega) (by omega) (by omega) (by omega) (by omega)).mono ?_)); rintro e w' ⟨rfl, ⟨n6, rfl⟩⟩)
              | (go_at_call 72; (with_reducible refine (skipN_c b fb s x.pos (i + L) _ (hat.drewN _) ((hX.l.drewN _).free 9) hp0 (by omega) (by omega) (by omega)).mono ?_); go_loud (rintro e w9 ⟨rfl, hw9⟩; have hX9 : Lx0 w9 b fb s { x with pos := x.pos + (i + L) } := (by rw [hw9]; exact (hX.drewN _).set9 _); have hU9 : Ups b w w9 := (by rw [hw9]; exact (((Ups.refl b w).below hB).drewN _).set 9 _); have hO9 : OwnN w9 w.heap.size (.slice A n C) xs := (by rw [hw9]; exact (HO.out.drewN _).set (by have := h.l.lt; exact this) _); obtain ⟨t, hcv⟩ := hO9.to_string; clear hw9)))
            (try simp only [Exit.inBlock, Exit.then]); refine bodyPost_ret (results_tmp2 rfl _ _ _) rfl ?_
            exact Quotes.ok (by rintro ⟨h1, h2⟩; have h3 := HIDL.out h1; have := HI.out; omega) hU9 (by rw [Int.add_assoc]; exact hX9.l)
        | false =>
          rw [hQ] at hcut
          have HF := Aside0.mk hQ
          clear hQ
          cases h92 : (bt s (x.pos + i) == 92) with
          | true => exact absurd ⟨hq, HF.out, beq_iff_eq.1 h92⟩ hesc.out
          | false =>
            have H92 := Aside0.mk (ne_of_beq_false h92)
            cases h10 : (bt s (x.pos + i) == 10 && L != 3) with
            | true =>
              have h10a : (bt s (x.pos + i) == 10) = true := by simp only [Bool.and_eq_true] at h10; exact h10.1
              have h10b : (L != 3) = true := by simp only [Bool.and_eq_true] at h10; exact h10.2
              have hL1 : L = 1 := by
                have h3 : L ≠ 3 := by simpa using h10b
                rcases hL0 with h | h
                · exact h
                · exact absurd h h3
              have hr : R = none := by rw [← HQ.out]; exact quoA_feed hq HF.out (beq_iff_eq.1 h10a) hL1
              clear hL1
              subst hr
              clear h10
              have hwi := iwrap (x.pos + i) (by omega) (by omega)
              have hp0' : 0 ≤ x.pos := hp0
              have hpq' : x.pos ≤ x.pos + i := by omega
              have hqs' : x.pos + i ≤ (s.size : Int) := i1
              go_wp2_with (first
                | (go_at_call 75; (first | (with_reducible refine (peekOk_c b fb s x.pos _ _ hat hp0 (by omega) (by omega) (by omega)).mono ?_) | (with_reducible refine (peekOk_c b fb s x.pos _ _ (hat.drewN _) hp0 (by omega) (by omega) (by omega)).mono ?_)); rintro e w' ⟨rfl, ⟨n4, rfl⟩⟩)
                | (go_at_call 88; (first | (with_reducible refine (slice_c b fb s x.pos _ _ _ hat hp0 (by omega) (by omega) (by omega) (by omega) (by omega)).mono ?_) | (with_reducible refine (slice_c b fb s x.pos _ _ _ (hat.drewN _) hp0 (by omega) (by omega) (by omega) (by omega) (by omega)).mono ?_)); rintro e w' ⟨rfl, ⟨n6, rfl⟩⟩)
                | (go_at_call 77; (first | (with_reducible refine (peek_c b fb s x.pos _ _ hat hp0 (by omega) (by omega) (by omega) (by omega)).mono ?_) | (with_reducible refine (peek_c b fb s x.pos _ _ (hat.drewN _) hp0 (by omega) (by omega) (by omega) (by omega)).mono ?_)); rintro e w' ⟨rfl, ⟨n5, rfl⟩⟩))
              refine wp_gen (w0 := wr) ?_
              intro wz hwz
              have hXz : Lx0 wz b fb s x := by obtain ⟨n, rfl⟩ := hwz; exact hX.drewN n
              have hUz : Ups b w wz := by obtain ⟨n, rfl⟩ := hwz; exact ((Ups.refl b w).below hB).drewN n
              have C9z := hXz.l.c9
              clear hwz
              go_still_tail 11, (by kernel_rfl)
              have hXd := hXz.drew
              go_wp2_with (first
                | (go_at_call 107; (with_reducible refine (panicAt_c b fb s x (x.pos) (x.pos + i) _ _ hXd hs hp0' hpq' hqs').mono ?_); rintro e w' ⟨⟨g, rfl⟩, hU2⟩))
              exact ⟨rfl, ⟨g, rfl⟩, (hUz.drew.two fb).trans hU2⟩
            | false =>
              have h10c : bt s (x.pos + i) ≠ 10 ∨ L ≠ 1 := by
                by_cases hh : bt s (x.pos + i) = 10
                · refine .inr fun h1 => ?_
                  rw [hh, h1] at h10
                  cases h10
                · exact .inl hh
              have H10 := Aside0.mk h10c
              have h10d : (bt s (x.pos + i) == 10) = false ∨ (bt s (x.pos + i) == 10) = true ∧ (L != 3) = false := by
                cases hh : (bt s (x.pos + i) == 10) with
                | false => exact .inl rfl
                | true => rw [hh, Bool.true_and] at h10; exact .inr ⟨rfl, h10⟩
              clear h10 h10c
              rcases h10d with g10 | ⟨g10, gL⟩
              all_goals
                go_wp2_with (first
                  | (go_at_call 75; (first | (with_reducible refine (peekOk_c b fb s x.pos _ _ hat hp0 (by omega) (by omega) (by omega)).mono ?_) | (with_reducible refine (peekOk_c b fb s x.pos _ _ (hat.drewN _) hp0 (by omega) (by omega) (by omega)).mono ?_)); rintro e w' ⟨rfl, ⟨n4, rfl⟩⟩)
                  | (go_at_call 88; (first | (with_reducible refine (slice_c b fb s x.pos _ _ _ hat hp0 (by omega) (by omega) (by omega) (by omega) (by omega)).mono ?_) | (with_reducible refine (slice_c b fb s x.pos _ _ _ (hat.drewN _) hp0 (by omega) (by omega) (by omega) (by omega) (by omega)).mono ?_)); rintro e w' ⟨rfl, ⟨n6, rfl⟩⟩)
                  | (go_at_call 77; (first | (with_reducible refine (peek_c b fb s x.pos _ _ hat hp0 (by omega) (by omega) (by omega) (by omega)).mono ?_) | (with_reducible refine (peek_c b fb s x.pos _ _ (hat.drewN _) hp0 (by omega) (by omega) (by omega) (by omega)).mono ?_)); rintro e w' ⟨rfl, ⟨n5, rfl⟩⟩)
                  | (at_builtin; refine append_one (w0 := w) w.heap.size rfl (.tmp 489) (.tmp 491) rfl _ xs _ rfl rfl (HO.out.drewN _) (below_drewN hB _) hsz hlen ?_; intro v1 w1 HO1 HB1; obtain ⟨A1, C1, rfl⟩ := HO1.shape' HNX.out (m := 1) rfl))
                refine Handed.intro (((s.size : Int) - (x.pos + (i + 1))).toNat + 1) (by have := HA.out.2.2.2.1; omega) ?_
                go_step
                exact ⟨i + 1, A1, C1, _, xs ++ [_], ⟨⟨by have := HNX.out; simp only [List.length_append, List.length_cons, List.length_nil]; omega, by omega, by omega, by rw [← HQ.out]; exact by rw [quoA_next hq HF.out H92.out H10.out]; congr 1; omega, by omega, ⟨fun hh => by simp at hh, fun hh => by exfalso; omega⟩, by have := HA.out.2.2.2.2.2; omega⟩, ⟨HB1⟩, ⟨HO1⟩⟩, to_frame83⟩
      · have hd1 : decide (x.pos + i < (s.size : Int)) = false := decide_eq_false hq
        have hr : R = none := by rw [← HQ.out]; exact quoA_eof (by omega)
        subst hr
        have hwi := iwrap (x.pos + i) (by omega) (by omega)
        have hp0' : 0 ≤ x.pos := hp0
        have hpq' : x.pos ≤ x.pos + i := by omega
        have hqs' : x.pos + i ≤ (s.size : Int) := i1
        go_wp2_with (first
          | (go_at_call 75; (first | (with_reducible refine (peekOk_c b fb s x.pos _ _ hat hp0 (by omega) (by omega) (by omega)).mono ?_) | (with_reducible refine (peekOk_c b fb s x.pos _ _ (hat.drewN _) hp0 (by omega) (by omega) (by omega)).mono ?_)); rintro e w' ⟨rfl, ⟨n4, rfl⟩⟩))
        refine wp_gen (w0 := wr) ?_
        intro wz hwz
        have hXz : Lx0 wz b fb s x := by obtain ⟨n, rfl⟩ := hwz; exact hX.drewN n
        have hUz : Ups b w wz := by obtain ⟨n, rfl⟩ := hwz; exact ((Ups.refl b w).below hB).drewN n
        have C9z := hXz.l.c9
        clear hwz
        go_still_tail 11, (by kernel_rfl)
        have hXd := hXz.drew
        go_wp2_with (first
          | (go_at_call 113; (with_reducible refine (errAt_c b fb s x x.pos (x.pos + i) _ _ hXd hs hp0' hpq' hqs').mono ?_); rintro e w' ⟨⟨g, rfl⟩, hU2⟩))
        exact ⟨rfl, ⟨g, rfl⟩, (hUz.drew.two fb).trans hU2⟩
end Go.Proofs.YtjepdlmcombmcaaGreatDoor.Lx
