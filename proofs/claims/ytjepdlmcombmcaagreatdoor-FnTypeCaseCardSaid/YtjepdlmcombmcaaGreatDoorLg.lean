/- The lexer's words (second part): a word that begins with b or B and is no literal's beginning. -/
import Derived.Test.YtjepdlmcombmcaaGreatDoorLf
namespace Go.Proofs.YtjepdlmcombmcaaGreatDoor.Lx
open Go.RowKit Go.Proofs.YtjepdlmcombmcaaGreatDoorW.PrintWords

set_option maxRecDepth 100000 in
set_option maxHeartbeats 4000000 in
theorem tok_word_b66 (w : World) (b fb : Nat) (x : St) (s : ByteArray) (hL : IsL w b fb x) (hF : IsF w fb s) (hp0 : 0 ≤ x.pos) (hp : x.pos + 1 < (s.size : Int)) (hs : (s.size : Int) ≤ 1000000)
    (hc : bt s x.pos = 66) (hn : bt s (x.pos + 1) ≠ 82 ∧ bt s (x.pos + 1) ≠ 114 ∧ bt s (x.pos + 1) ≠ 34 ∧ bt s (x.pos + 1) ≠ 39) :
    Calls Tryz.prog 54 #[.pointer (some ⟨b, 0, none⟩), .bool false] w fun e w' => e = .returned (.tuple #[]) ∧ Ups b w w' ∧
      IsL w' b fb { x with kind := wkind (wordOf s x.pos (run isPart s x.pos)), txt := wtxt (wordOf s x.pos (run isPart s x.pos)) x.txt, pos := run isPart s x.pos } := by
  have hat := hL.at_ hF
  have hd : decide ((s.size : Int) ≤ x.pos) = false := decide_eq_false (by omega)
  have hd0 : decide (x.pos < (s.size : Int)) = true := decide_eq_true (by omega)
  have hd2 : decide (x.pos + 1 < (s.size : Int)) = true := decide_eq_true (by omega)
  have hlet : isLetter (bt s x.pos) = true := by rw [hc]; rfl
  have Z1 := hL.free 1
  have Z5 := hL.free 5
  have H1 := hL.c1
  have H5 := hL.c5
  have f40 : (bt s x.pos == 40) = false := by rw [hc]; rfl
  have f41 : (bt s x.pos == 41) = false := by rw [hc]; rfl
  have f123 : (bt s x.pos == 123) = false := by rw [hc]; rfl
  have f125 : (bt s x.pos == 125) = false := by rw [hc]; rfl
  have f59 : (bt s x.pos == 59) = false := by rw [hc]; rfl
  have f44 : (bt s x.pos == 44) = false := by rw [hc]; rfl
  have f91 : (bt s x.pos == 91) = false := by rw [hc]; rfl
  have f93 : (bt s x.pos == 93) = false := by rw [hc]; rfl
  have f126 : (bt s x.pos == 126) = false := by rw [hc]; rfl
  have f42 : (bt s x.pos == 42) = false := by rw [hc]; rfl
  have f47 : (bt s x.pos == 47) = false := by rw [hc]; rfl
  have f38 : (bt s x.pos == 38) = false := by rw [hc]; rfl
  have f94 : (bt s x.pos == 94) = false := by rw [hc]; rfl
  have f37 : (bt s x.pos == 37) = false := by rw [hc]; rfl
  have f58 : (bt s x.pos == 58) = false := by rw [hc]; rfl
  have f63 : (bt s x.pos == 63) = false := by rw [hc]; rfl
  have f92 : (bt s x.pos == 92) = false := by rw [hc]; rfl
  have f36 : (bt s x.pos == 36) = false := by rw [hc]; rfl
  have f46 : (bt s x.pos == 46) = false := by rw [hc]; rfl
  have f60 : (bt s x.pos == 60) = false := by rw [hc]; rfl
  have f62 : (bt s x.pos == 62) = false := by rw [hc]; rfl
  have f43 : (bt s x.pos == 43) = false := by rw [hc]; rfl
  have f45 : (bt s x.pos == 45) = false := by rw [hc]; rfl
  have f61 : (bt s x.pos == 61) = false := by rw [hc]; rfl
  have f124 : (bt s x.pos == 124) = false := by rw [hc]; rfl
  have f33 : (bt s x.pos == 33) = false := by rw [hc]; rfl
  have f64 : (bt s x.pos == 64) = false := by rw [hc]; rfl
  have f96 : (bt s x.pos == 96) = false := by rw [hc]; rfl
  have f48 : (bt s x.pos == 48) = false := by rw [hc]; rfl
  have f49 : (bt s x.pos == 49) = false := by rw [hc]; rfl
  have f50 : (bt s x.pos == 50) = false := by rw [hc]; rfl
  have f51 : (bt s x.pos == 51) = false := by rw [hc]; rfl
  have f52 : (bt s x.pos == 52) = false := by rw [hc]; rfl
  have f53 : (bt s x.pos == 53) = false := by rw [hc]; rfl
  have f54 : (bt s x.pos == 54) = false := by rw [hc]; rfl
  have f55 : (bt s x.pos == 55) = false := by rw [hc]; rfl
  have f56 : (bt s x.pos == 56) = false := by rw [hc]; rfl
  have f57 : (bt s x.pos == 57) = false := by rw [hc]; rfl
  have f66 : (bt s x.pos == 66) = true := by rw [hc]; rfl
  have f98 : (bt s x.pos == 98) = false := by rw [hc]; rfl
  have f82 : (bt s x.pos == 82) = false := by rw [hc]; rfl
  have f114 : (bt s x.pos == 114) = false := by rw [hc]; rfl
  have f34 : (bt s x.pos == 34) = false := by rw [hc]; rfl
  have f39 : (bt s x.pos == 39) = false := by rw [hc]; rfl
  have g82 : (bt s (x.pos + 1) == 82) = false := beqf hn.1
  have g114 : (bt s (x.pos + 1) == 114) = false := beqf hn.2.1
  have g34 : (bt s (x.pos + 1) == 34) = false := beqf hn.2.2.1
  have g39 : (bt s (x.pos + 1) == 39) = false := beqf hn.2.2.2
  have HC := Aside0.mk hc
  clear hc hn
  go_enter Tryz.func54, Tryz.ntmps54
  go_wp2_with (first
    | (go_at_call 69; (with_reducible refine (eof_c b fb s _ _ hat).mono ?_); rintro e w' ⟨rfl, ⟨n1, rfl⟩⟩)
    | (go_at_call 77; (with_reducible refine (peek_c b fb s _ 0 _ (hat.drewN _) hp0 (by omega) (by omega) (by omega) (by omega)).mono ?_); rintro e w' ⟨rfl, ⟨n2, rfl⟩⟩))
  go_step3
  go_wp2
  go_step3
  go_wp2
  go_loopg [7, 8, 9] 2 (fun kq v7 v8 v9 wr => v8 = .bool false ∧ ((v7 = .bool false ∧ v9 = .int .i64 0 ∧ Aside0 (1 < kq)) ∨ (v7 = .bool true ∧ v9 = .int .i64 1 ∧ Aside0 (0 < kq))) ∧ Drawn0 w wr)
  case atStart => exact ⟨rfl, .inl ⟨rfl, rfl, ⟨by omega⟩⟩, by repeat (first | exact Drawn0.refl _ | apply Drawn0.step)⟩
  case round =>
    obtain ⟨rfl, ⟨rfl, rfl, HK⟩ | ⟨rfl, rfl, HK⟩, ⟨m1, rfl⟩⟩ := hrel
    · go_wp2_with (first
        | (go_at_call 75; (with_reducible refine (peekOk_c b fb s _ 0 _ (hat.drewN _) hp0 (by omega) (by omega) (by omega)).mono ?_); rintro e w' ⟨rfl, ⟨n4, rfl⟩⟩)
        | (go_at_call 73; (with_reducible refine (peekIs_c b fb s _ 0 _ _ (hat.drewN _) hp0 (by omega) (by omega) (by omega)).mono ?_); rintro e w' ⟨rfl, ⟨n3, rfl⟩⟩))
      go_roundg 1
      case measure => exact HK.out
      case rel => exact ⟨rfl, .inr ⟨rfl, rfl, ⟨by omega⟩⟩, by repeat (first | exact Drawn0.refl _ | apply Drawn0.step)⟩
    · go_wp2_with (first
        | (go_at_call 75; (with_reducible refine (peekOk_c b fb s _ 1 _ (hat.drewN _) hp0 (by omega) (by omega) (by omega)).mono ?_); rintro e w' ⟨rfl, ⟨n4, rfl⟩⟩)
        | (go_at_call 73; (with_reducible refine (peekIs_c b fb s _ 1 _ _ (hat.drewN _) hp0 (by omega) (by omega) (by omega)).mono ?_); rintro e w' ⟨rfl, ⟨n3, rfl⟩⟩)
        | (go_at_call 77; (with_reducible refine (peek_c b fb s _ 0 _ (hat.drewN _) hp0 (by omega) (by omega) (by omega) (by omega)).mono ?_); rintro e w' ⟨rfl, ⟨n2, rfl⟩⟩)
        | (go_at_call 82; (with_reducible refine (charIsIdentStart_c _ _).mono ?_); rintro e w' ⟨rfl, rfl⟩))
      simp only [Exit.noGoto]
      go_wp2_with (first
        | (go_at_call 77; (with_reducible refine (peek_c b fb s _ 0 _ (hat.drewN _) hp0 (by omega) (by omega) (by omega) (by omega)).mono ?_); rintro e w' ⟨rfl, ⟨n2, rfl⟩⟩)
        | (go_at_call 82; (with_reducible refine (charIsIdentStart_c _ _).mono ?_); rintro e w' ⟨rfl, rfl⟩))
      go_loopg [10] (((s.size : Int) - x.pos).toNat + 1) (fun kq v10 wr => ∃ i : Int, v10 = .int .i64 i ∧ Aside0 (0 ≤ i ∧ x.pos + i ≤ (s.size : Int) ∧ run isPart s (x.pos + i) = run isPart s x.pos ∧ ((s.size : Int) - (x.pos + i)).toNat < kq) ∧ Drawn0 w wr)
      case atStart => exact ⟨0, rfl, ⟨Int.le_refl _, by omega, by rw [Int.add_zero], by omega⟩, by repeat (first | exact Drawn0.refl _ | apply Drawn0.step)⟩
      case round =>
        obtain ⟨i, rfl, HA, ⟨m1, rfl⟩⟩ := hrel
        have hi0 : 0 ≤ i := HA.out.1
        have hi1 := HA.out.2.1
        by_cases hlt : x.pos + i < (s.size : Int)
        · have hd1 : decide (x.pos + i < (s.size : Int)) = true := decide_eq_true hlt
          by_cases hq : isPart (bt s (x.pos + i)) = true
          · go_wp2_with (first
            | (go_at_call 75; (with_reducible refine (peekOk_c b fb s _ i _ (hat.drewN _) hp0 (by omega) hi0 (by omega)).mono ?_); rintro e w' ⟨rfl, ⟨n4, rfl⟩⟩)
            | (go_at_call 77; (with_reducible refine (peek_c b fb s _ i _ (hat.drewN _) hp0 (by omega) hi0 (by omega) hlt).mono ?_); rintro e w' ⟨rfl, ⟨n5, rfl⟩⟩)
            | (go_at_call 76; (with_reducible refine (charIsIdentPart_c _ _).mono ?_); rintro e w' ⟨rfl, rfl⟩))
            go_roundg (((s.size : Int) - (x.pos + (i + 1))).toNat + 1)
            case measure => have := HA.out.2.2.2; omega
            case rel => exact ⟨i + 1, rfl, ⟨by omega, by omega, by rw [← HA.out.2.2.1, ← Int.add_assoc]; exact (run_step hlt hq).symm, by omega⟩, by repeat (first | exact Drawn0.refl _ | apply Drawn0.step)⟩
          · have hq2 : isPart (bt s (x.pos + i)) = false := by simpa using hq
            have hr : run isPart s x.pos = x.pos + i := by rw [← HA.out.2.2.1]; exact run_stop hq2
            have HR := Aside0.mk hr
            clear hr hq
            by_cases hk : kw (upS (s.extract x.pos.toNat (x.pos + i).toNat)).toList = true
            · go_wp2_with (first
              | (go_at_call 75; (with_reducible refine (peekOk_c b fb s _ i _ (hat.drewN _) hp0 (by omega) hi0 (by omega)).mono ?_); rintro e w' ⟨rfl, ⟨n4, rfl⟩⟩)
              | (go_at_call 77; (with_reducible refine (peek_c b fb s _ i _ (hat.drewN _) hp0 (by omega) hi0 (by omega) hlt).mono ?_); rintro e w' ⟨rfl, ⟨n5, rfl⟩⟩)
              | (go_at_call 76; (with_reducible refine (charIsIdentPart_c _ _).mono ?_); rintro e w' ⟨rfl, rfl⟩)
              | (go_at_call 88; (with_reducible refine (slice_c b fb s _ 0 _ i (hat.drewN _) hp0 (by omega) (by omega) hi0 (by omega) (by omega)).mono ?_); rintro e w' ⟨rfl, ⟨n6, rfl⟩⟩)
              | (go_at_call 72; (with_reducible refine (skipN_c b fb s _ i _ (hat.drewN _) ((hL.drewN _).free 9) hp0 (by omega) hi0 (by omega)).mono ?_); rintro e w' ⟨rfl, rfl⟩)
              | (go_at_call 89; (with_reducible refine (toUpper_c _ _ (by rw [ByteArray.size_extract]; omega)).mono ?_); rintro e W ⟨rfl, hbW⟩; have hLW := ((hL.drewN _).set9 _).below hbW; have hUW := (((Ups.refl b w).drewN _).set 9 _).below hbW; have K1 := hLW.c1; have Y1 := hLW.free 1; have K5 := hLW.c5; have Y5 := hLW.free 5)
              | (go_at_call 90; (with_reducible refine (zzKeyword_c _ _).mono ?_); rintro e w' ⟨rfl, rfl⟩))
              (try simp only [Exit.inBlock, Exit.then]); refine bodyPost_ret (results_none rfl _ _ _) rfl ?_
              exact ⟨rfl, hUW.set 1 _, by rw [HR.out]; unfold wkind wtxt wordOf; rw [if_pos hk, if_pos hk]; exact hLW.set1 _⟩
            · have hk2 : kw (upS (s.extract x.pos.toNat (x.pos + i).toNat)).toList = false := by simpa using hk
              go_wp2_with (first
              | (go_at_call 75; (with_reducible refine (peekOk_c b fb s _ i _ (hat.drewN _) hp0 (by omega) hi0 (by omega)).mono ?_); rintro e w' ⟨rfl, ⟨n4, rfl⟩⟩)
              | (go_at_call 77; (with_reducible refine (peek_c b fb s _ i _ (hat.drewN _) hp0 (by omega) hi0 (by omega) hlt).mono ?_); rintro e w' ⟨rfl, ⟨n5, rfl⟩⟩)
              | (go_at_call 76; (with_reducible refine (charIsIdentPart_c _ _).mono ?_); rintro e w' ⟨rfl, rfl⟩)
              | (go_at_call 88; (with_reducible refine (slice_c b fb s _ 0 _ i (hat.drewN _) hp0 (by omega) (by omega) hi0 (by omega) (by omega)).mono ?_); rintro e w' ⟨rfl, ⟨n6, rfl⟩⟩)
              | (go_at_call 72; (with_reducible refine (skipN_c b fb s _ i _ (hat.drewN _) ((hL.drewN _).free 9) hp0 (by omega) hi0 (by omega)).mono ?_); rintro e w' ⟨rfl, rfl⟩)
              | (go_at_call 89; (with_reducible refine (toUpper_c _ _ (by rw [ByteArray.size_extract]; omega)).mono ?_); rintro e W ⟨rfl, hbW⟩; have hLW := ((hL.drewN _).set9 _).below hbW; have hUW := (((Ups.refl b w).drewN _).set 9 _).below hbW; have K1 := hLW.c1; have Y1 := hLW.free 1; have K5 := hLW.c5; have Y5 := hLW.free 5)
              | (go_at_call 90; (with_reducible refine (zzKeyword_c _ _).mono ?_); rintro e w' ⟨rfl, rfl⟩))
              (try simp only [Exit.inBlock, Exit.then]); refine bodyPost_ret (results_none rfl _ _ _) rfl ?_
              exact ⟨rfl, (hUW.set 1 _).set 5 _, by rw [HR.out]; unfold wkind wtxt wordOf; rw [if_neg hk, if_neg hk]; exact (hLW.set1 _).set5 _⟩
        · have hd1 : decide (x.pos + i < (s.size : Int)) = false := decide_eq_false hlt
          have hr : run isPart s x.pos = x.pos + i := by rw [← HA.out.2.2.1]; exact run_end (by omega)
          have HR := Aside0.mk hr
          clear hr
          by_cases hk : kw (upS (s.extract x.pos.toNat (x.pos + i).toNat)).toList = true
          · go_wp2_with (first
            | (go_at_call 75; (with_reducible refine (peekOk_c b fb s _ i _ (hat.drewN _) hp0 (by omega) hi0 (by omega)).mono ?_); rintro e w' ⟨rfl, ⟨n4, rfl⟩⟩)
            | (go_at_call 77; (with_reducible refine (peek_c b fb s _ i _ (hat.drewN _) hp0 (by omega) hi0 (by omega) hlt).mono ?_); rintro e w' ⟨rfl, ⟨n5, rfl⟩⟩)
            | (go_at_call 76; (with_reducible refine (charIsIdentPart_c _ _).mono ?_); rintro e w' ⟨rfl, rfl⟩)
            | (go_at_call 88; (with_reducible refine (slice_c b fb s _ 0 _ i (hat.drewN _) hp0 (by omega) (by omega) hi0 (by omega) (by omega)).mono ?_); rintro e w' ⟨rfl, ⟨n6, rfl⟩⟩)
            | (go_at_call 72; (with_reducible refine (skipN_c b fb s _ i _ (hat.drewN _) ((hL.drewN _).free 9) hp0 (by omega) hi0 (by omega)).mono ?_); rintro e w' ⟨rfl, rfl⟩)
            | (go_at_call 89; (with_reducible refine (toUpper_c _ _ (by rw [ByteArray.size_extract]; omega)).mono ?_); rintro e W ⟨rfl, hbW⟩; have hLW := ((hL.drewN _).set9 _).below hbW; have hUW := (((Ups.refl b w).drewN _).set 9 _).below hbW; have K1 := hLW.c1; have Y1 := hLW.free 1; have K5 := hLW.c5; have Y5 := hLW.free 5)
            | (go_at_call 90; (with_reducible refine (zzKeyword_c _ _).mono ?_); rintro e w' ⟨rfl, rfl⟩))
            (try simp only [Exit.inBlock, Exit.then]); refine bodyPost_ret (results_none rfl _ _ _) rfl ?_
            exact ⟨rfl, hUW.set 1 _, by rw [HR.out]; unfold wkind wtxt wordOf; rw [if_pos hk, if_pos hk]; exact hLW.set1 _⟩
          · have hk2 : kw (upS (s.extract x.pos.toNat (x.pos + i).toNat)).toList = false := by simpa using hk
            go_wp2_with (first
            | (go_at_call 75; (with_reducible refine (peekOk_c b fb s _ i _ (hat.drewN _) hp0 (by omega) hi0 (by omega)).mono ?_); rintro e w' ⟨rfl, ⟨n4, rfl⟩⟩)
            | (go_at_call 77; (with_reducible refine (peek_c b fb s _ i _ (hat.drewN _) hp0 (by omega) hi0 (by omega) hlt).mono ?_); rintro e w' ⟨rfl, ⟨n5, rfl⟩⟩)
            | (go_at_call 76; (with_reducible refine (charIsIdentPart_c _ _).mono ?_); rintro e w' ⟨rfl, rfl⟩)
            | (go_at_call 88; (with_reducible refine (slice_c b fb s _ 0 _ i (hat.drewN _) hp0 (by omega) (by omega) hi0 (by omega) (by omega)).mono ?_); rintro e w' ⟨rfl, ⟨n6, rfl⟩⟩)
            | (go_at_call 72; (with_reducible refine (skipN_c b fb s _ i _ (hat.drewN _) ((hL.drewN _).free 9) hp0 (by omega) hi0 (by omega)).mono ?_); rintro e w' ⟨rfl, rfl⟩)
            | (go_at_call 89; (with_reducible refine (toUpper_c _ _ (by rw [ByteArray.size_extract]; omega)).mono ?_); rintro e W ⟨rfl, hbW⟩; have hLW := ((hL.drewN _).set9 _).below hbW; have hUW := (((Ups.refl b w).drewN _).set 9 _).below hbW; have K1 := hLW.c1; have Y1 := hLW.free 1; have K5 := hLW.c5; have Y5 := hLW.free 5)
            | (go_at_call 90; (with_reducible refine (zzKeyword_c _ _).mono ?_); rintro e w' ⟨rfl, rfl⟩))
            (try simp only [Exit.inBlock, Exit.then]); refine bodyPost_ret (results_none rfl _ _ _) rfl ?_
            exact ⟨rfl, (hUW.set 1 _).set 5 _, by rw [HR.out]; unfold wkind wtxt wordOf; rw [if_neg hk, if_neg hk]; exact (hLW.set1 _).set5 _⟩

set_option maxRecDepth 100000 in
set_option maxHeartbeats 4000000 in
theorem tok_word_b98 (w : World) (b fb : Nat) (x : St) (s : ByteArray) (hL : IsL w b fb x) (hF : IsF w fb s) (hp0 : 0 ≤ x.pos) (hp : x.pos + 1 < (s.size : Int)) (hs : (s.size : Int) ≤ 1000000)
    (hc : bt s x.pos = 98) (hn : bt s (x.pos + 1) ≠ 82 ∧ bt s (x.pos + 1) ≠ 114 ∧ bt s (x.pos + 1) ≠ 34 ∧ bt s (x.pos + 1) ≠ 39) :
    Calls Tryz.prog 54 #[.pointer (some ⟨b, 0, none⟩), .bool false] w fun e w' => e = .returned (.tuple #[]) ∧ Ups b w w' ∧
      IsL w' b fb { x with kind := wkind (wordOf s x.pos (run isPart s x.pos)), txt := wtxt (wordOf s x.pos (run isPart s x.pos)) x.txt, pos := run isPart s x.pos } := by
  have hat := hL.at_ hF
  have hd : decide ((s.size : Int) ≤ x.pos) = false := decide_eq_false (by omega)
  have hd0 : decide (x.pos < (s.size : Int)) = true := decide_eq_true (by omega)
  have hd2 : decide (x.pos + 1 < (s.size : Int)) = true := decide_eq_true (by omega)
  have hlet : isLetter (bt s x.pos) = true := by rw [hc]; rfl
  have Z1 := hL.free 1
  have Z5 := hL.free 5
  have H1 := hL.c1
  have H5 := hL.c5
  have f40 : (bt s x.pos == 40) = false := by rw [hc]; rfl
  have f41 : (bt s x.pos == 41) = false := by rw [hc]; rfl
  have f123 : (bt s x.pos == 123) = false := by rw [hc]; rfl
  have f125 : (bt s x.pos == 125) = false := by rw [hc]; rfl
  have f59 : (bt s x.pos == 59) = false := by rw [hc]; rfl
  have f44 : (bt s x.pos == 44) = false := by rw [hc]; rfl
  have f91 : (bt s x.pos == 91) = false := by rw [hc]; rfl
  have f93 : (bt s x.pos == 93) = false := by rw [hc]; rfl
  have f126 : (bt s x.pos == 126) = false := by rw [hc]; rfl
  have f42 : (bt s x.pos == 42) = false := by rw [hc]; rfl
  have f47 : (bt s x.pos == 47) = false := by rw [hc]; rfl
  have f38 : (bt s x.pos == 38) = false := by rw [hc]; rfl
  have f94 : (bt s x.pos == 94) = false := by rw [hc]; rfl
  have f37 : (bt s x.pos == 37) = false := by rw [hc]; rfl
  have f58 : (bt s x.pos == 58) = false := by rw [hc]; rfl
  have f63 : (bt s x.pos == 63) = false := by rw [hc]; rfl
  have f92 : (bt s x.pos == 92) = false := by rw [hc]; rfl
  have f36 : (bt s x.pos == 36) = false := by rw [hc]; rfl
  have f46 : (bt s x.pos == 46) = false := by rw [hc]; rfl
  have f60 : (bt s x.pos == 60) = false := by rw [hc]; rfl
  have f62 : (bt s x.pos == 62) = false := by rw [hc]; rfl
  have f43 : (bt s x.pos == 43) = false := by rw [hc]; rfl
  have f45 : (bt s x.pos == 45) = false := by rw [hc]; rfl
  have f61 : (bt s x.pos == 61) = false := by rw [hc]; rfl
  have f124 : (bt s x.pos == 124) = false := by rw [hc]; rfl
  have f33 : (bt s x.pos == 33) = false := by rw [hc]; rfl
  have f64 : (bt s x.pos == 64) = false := by rw [hc]; rfl
  have f96 : (bt s x.pos == 96) = false := by rw [hc]; rfl
  have f48 : (bt s x.pos == 48) = false := by rw [hc]; rfl
  have f49 : (bt s x.pos == 49) = false := by rw [hc]; rfl
  have f50 : (bt s x.pos == 50) = false := by rw [hc]; rfl
  have f51 : (bt s x.pos == 51) = false := by rw [hc]; rfl
  have f52 : (bt s x.pos == 52) = false := by rw [hc]; rfl
  have f53 : (bt s x.pos == 53) = false := by rw [hc]; rfl
  have f54 : (bt s x.pos == 54) = false := by rw [hc]; rfl
  have f55 : (bt s x.pos == 55) = false := by rw [hc]; rfl
  have f56 : (bt s x.pos == 56) = false := by rw [hc]; rfl
  have f57 : (bt s x.pos == 57) = false := by rw [hc]; rfl
  have f66 : (bt s x.pos == 66) = false := by rw [hc]; rfl
  have f98 : (bt s x.pos == 98) = true := by rw [hc]; rfl
  have f82 : (bt s x.pos == 82) = false := by rw [hc]; rfl
  have f114 : (bt s x.pos == 114) = false := by rw [hc]; rfl
  have f34 : (bt s x.pos == 34) = false := by rw [hc]; rfl
  have f39 : (bt s x.pos == 39) = false := by rw [hc]; rfl
  have g82 : (bt s (x.pos + 1) == 82) = false := beqf hn.1
  have g114 : (bt s (x.pos + 1) == 114) = false := beqf hn.2.1
  have g34 : (bt s (x.pos + 1) == 34) = false := beqf hn.2.2.1
  have g39 : (bt s (x.pos + 1) == 39) = false := beqf hn.2.2.2
  have HC := Aside0.mk hc
  clear hc hn
  go_enter Tryz.func54, Tryz.ntmps54
  go_wp2_with (first
    | (go_at_call 69; (with_reducible refine (eof_c b fb s _ _ hat).mono ?_); rintro e w' ⟨rfl, ⟨n1, rfl⟩⟩)
    | (go_at_call 77; (with_reducible refine (peek_c b fb s _ 0 _ (hat.drewN _) hp0 (by omega) (by omega) (by omega) (by omega)).mono ?_); rintro e w' ⟨rfl, ⟨n2, rfl⟩⟩))
  go_step3
  go_wp2
  go_step3
  go_wp2
  go_loopg [7, 8, 9] 2 (fun kq v7 v8 v9 wr => v8 = .bool false ∧ ((v7 = .bool false ∧ v9 = .int .i64 0 ∧ Aside0 (1 < kq)) ∨ (v7 = .bool true ∧ v9 = .int .i64 1 ∧ Aside0 (0 < kq))) ∧ Drawn0 w wr)
  case atStart => exact ⟨rfl, .inl ⟨rfl, rfl, ⟨by omega⟩⟩, by repeat (first | exact Drawn0.refl _ | apply Drawn0.step)⟩
  case round =>
    obtain ⟨rfl, ⟨rfl, rfl, HK⟩ | ⟨rfl, rfl, HK⟩, ⟨m1, rfl⟩⟩ := hrel
    · go_wp2_with (first
        | (go_at_call 75; (with_reducible refine (peekOk_c b fb s _ 0 _ (hat.drewN _) hp0 (by omega) (by omega) (by omega)).mono ?_); rintro e w' ⟨rfl, ⟨n4, rfl⟩⟩)
        | (go_at_call 73; (with_reducible refine (peekIs_c b fb s _ 0 _ _ (hat.drewN _) hp0 (by omega) (by omega) (by omega)).mono ?_); rintro e w' ⟨rfl, ⟨n3, rfl⟩⟩))
      go_roundg 1
      case measure => exact HK.out
      case rel => exact ⟨rfl, .inr ⟨rfl, rfl, ⟨by omega⟩⟩, by repeat (first | exact Drawn0.refl _ | apply Drawn0.step)⟩
    · go_wp2_with (first
        | (go_at_call 75; (with_reducible refine (peekOk_c b fb s _ 1 _ (hat.drewN _) hp0 (by omega) (by omega) (by omega)).mono ?_); rintro e w' ⟨rfl, ⟨n4, rfl⟩⟩)
        | (go_at_call 73; (with_reducible refine (peekIs_c b fb s _ 1 _ _ (hat.drewN _) hp0 (by omega) (by omega) (by omega)).mono ?_); rintro e w' ⟨rfl, ⟨n3, rfl⟩⟩)
        | (go_at_call 77; (with_reducible refine (peek_c b fb s _ 0 _ (hat.drewN _) hp0 (by omega) (by omega) (by omega) (by omega)).mono ?_); rintro e w' ⟨rfl, ⟨n2, rfl⟩⟩)
        | (go_at_call 82; (with_reducible refine (charIsIdentStart_c _ _).mono ?_); rintro e w' ⟨rfl, rfl⟩))
      simp only [Exit.noGoto]
      go_wp2_with (first
        | (go_at_call 77; (with_reducible refine (peek_c b fb s _ 0 _ (hat.drewN _) hp0 (by omega) (by omega) (by omega) (by omega)).mono ?_); rintro e w' ⟨rfl, ⟨n2, rfl⟩⟩)
        | (go_at_call 82; (with_reducible refine (charIsIdentStart_c _ _).mono ?_); rintro e w' ⟨rfl, rfl⟩))
      go_loopg [10] (((s.size : Int) - x.pos).toNat + 1) (fun kq v10 wr => ∃ i : Int, v10 = .int .i64 i ∧ Aside0 (0 ≤ i ∧ x.pos + i ≤ (s.size : Int) ∧ run isPart s (x.pos + i) = run isPart s x.pos ∧ ((s.size : Int) - (x.pos + i)).toNat < kq) ∧ Drawn0 w wr)
      case atStart => exact ⟨0, rfl, ⟨Int.le_refl _, by omega, by rw [Int.add_zero], by omega⟩, by repeat (first | exact Drawn0.refl _ | apply Drawn0.step)⟩
      case round =>
        obtain ⟨i, rfl, HA, ⟨m1, rfl⟩⟩ := hrel
        have hi0 : 0 ≤ i := HA.out.1
        have hi1 := HA.out.2.1
        by_cases hlt : x.pos + i < (s.size : Int)
        · have hd1 : decide (x.pos + i < (s.size : Int)) = true := decide_eq_true hlt
          by_cases hq : isPart (bt s (x.pos + i)) = true
          · go_wp2_with (first
            | (go_at_call 75; (with_reducible refine (peekOk_c b fb s _ i _ (hat.drewN _) hp0 (by omega) hi0 (by omega)).mono ?_); rintro e w' ⟨rfl, ⟨n4, rfl⟩⟩)
            | (go_at_call 77; (with_reducible refine (peek_c b fb s _ i _ (hat.drewN _) hp0 (by omega) hi0 (by omega) hlt).mono ?_); rintro e w' ⟨rfl, ⟨n5, rfl⟩⟩)
            | (go_at_call 76; (with_reducible refine (charIsIdentPart_c _ _).mono ?_); rintro e w' ⟨rfl, rfl⟩))
            go_roundg (((s.size : Int) - (x.pos + (i + 1))).toNat + 1)
            case measure => have := HA.out.2.2.2; omega
            case rel => exact ⟨i + 1, rfl, ⟨by omega, by omega, by rw [← HA.out.2.2.1, ← Int.add_assoc]; exact (run_step hlt hq).symm, by omega⟩, by repeat (first | exact Drawn0.refl _ | apply Drawn0.step)⟩
          · have hq2 : isPart (bt s (x.pos + i)) = false := by simpa using hq
            have hr : run isPart s x.pos = x.pos + i := by rw [← HA.out.2.2.1]; exact run_stop hq2
            have HR := Aside0.mk hr
            clear hr hq
            by_cases hk : kw (upS (s.extract x.pos.toNat (x.pos + i).toNat)).toList = true
            · go_wp2_with (first
              | (go_at_call 75; (with_reducible refine (peekOk_c b fb s _ i _ (hat.drewN _) hp0 (by omega) hi0 (by omega)).mono ?_); rintro e w' ⟨rfl, ⟨n4, rfl⟩⟩)
              | (go_at_call 77; (with_reducible refine (peek_c b fb s _ i _ (hat.drewN _) hp0 (by omega) hi0 (by omega) hlt).mono ?_); rintro e w' ⟨rfl, ⟨n5, rfl⟩⟩)
              | (go_at_call 76; (with_reducible refine (charIsIdentPart_c _ _).mono ?_); rintro e w' ⟨rfl, rfl⟩)
              | (go_at_call 88; (with_reducible refine (slice_c b fb s _ 0 _ i (hat.drewN _) hp0 (by omega) (by omega) hi0 (by omega) (by omega)).mono ?_); rintro e w' ⟨rfl, ⟨n6, rfl⟩⟩)
              | (go_at_call 72; (with_reducible refine (skipN_c b fb s _ i _ (hat.drewN _) ((hL.drewN _).free 9) hp0 (by omega) hi0 (by omega)).mono ?_); rintro e w' ⟨rfl, rfl⟩)
              | (go_at_call 89; (with_reducible refine (toUpper_c _ _ (by rw [ByteArray.size_extract]; omega)).mono ?_); rintro e W ⟨rfl, hbW⟩; have hLW := ((hL.drewN _).set9 _).below hbW; have hUW := (((Ups.refl b w).drewN _).set 9 _).below hbW; have K1 := hLW.c1; have Y1 := hLW.free 1; have K5 := hLW.c5; have Y5 := hLW.free 5)
              | (go_at_call 90; (with_reducible refine (zzKeyword_c _ _).mono ?_); rintro e w' ⟨rfl, rfl⟩))
              (try simp only [Exit.inBlock, Exit.then]); refine bodyPost_ret (results_none rfl _ _ _) rfl ?_
              exact ⟨rfl, hUW.set 1 _, by rw [HR.out]; unfold wkind wtxt wordOf; rw [if_pos hk, if_pos hk]; exact hLW.set1 _⟩
            · have hk2 : kw (upS (s.extract x.pos.toNat (x.pos + i).toNat)).toList = false := by simpa using hk
              go_wp2_with (first
              | (go_at_call 75; (with_reducible refine (peekOk_c b fb s _ i _ (hat.drewN _) hp0 (by omega) hi0 (by omega)).mono ?_); rintro e w' ⟨rfl, ⟨n4, rfl⟩⟩)
              | (go_at_call 77; (with_reducible refine (peek_c b fb s _ i _ (hat.drewN _) hp0 (by omega) hi0 (by omega) hlt).mono ?_); rintro e w' ⟨rfl, ⟨n5, rfl⟩⟩)
              | (go_at_call 76; (with_reducible refine (charIsIdentPart_c _ _).mono ?_); rintro e w' ⟨rfl, rfl⟩)
              | (go_at_call 88; (with_reducible refine (slice_c b fb s _ 0 _ i (hat.drewN _) hp0 (by omega) (by omega) hi0 (by omega) (by omega)).mono ?_); rintro e w' ⟨rfl, ⟨n6, rfl⟩⟩)
              | (go_at_call 72; (with_reducible refine (skipN_c b fb s _ i _ (hat.drewN _) ((hL.drewN _).free 9) hp0 (by omega) hi0 (by omega)).mono ?_); rintro e w' ⟨rfl, rfl⟩)
              | (go_at_call 89; (with_reducible refine (toUpper_c _ _ (by rw [ByteArray.size_extract]; omega)).mono ?_); rintro e W ⟨rfl, hbW⟩; have hLW := ((hL.drewN _).set9 _).below hbW; have hUW := (((Ups.refl b w).drewN _).set 9 _).below hbW; have K1 := hLW.c1; have Y1 := hLW.free 1; have K5 := hLW.c5; have Y5 := hLW.free 5)
              | (go_at_call 90; (with_reducible refine (zzKeyword_c _ _).mono ?_); rintro e w' ⟨rfl, rfl⟩))
              (try simp only [Exit.inBlock, Exit.then]); refine bodyPost_ret (results_none rfl _ _ _) rfl ?_
              exact ⟨rfl, (hUW.set 1 _).set 5 _, by rw [HR.out]; unfold wkind wtxt wordOf; rw [if_neg hk, if_neg hk]; exact (hLW.set1 _).set5 _⟩
        · have hd1 : decide (x.pos + i < (s.size : Int)) = false := decide_eq_false hlt
          have hr : run isPart s x.pos = x.pos + i := by rw [← HA.out.2.2.1]; exact run_end (by omega)
          have HR := Aside0.mk hr
          clear hr
          by_cases hk : kw (upS (s.extract x.pos.toNat (x.pos + i).toNat)).toList = true
          · go_wp2_with (first
            | (go_at_call 75; (with_reducible refine (peekOk_c b fb s _ i _ (hat.drewN _) hp0 (by omega) hi0 (by omega)).mono ?_); rintro e w' ⟨rfl, ⟨n4, rfl⟩⟩)
            | (go_at_call 77; (with_reducible refine (peek_c b fb s _ i _ (hat.drewN _) hp0 (by omega) hi0 (by omega) hlt).mono ?_); rintro e w' ⟨rfl, ⟨n5, rfl⟩⟩)
            | (go_at_call 76; (with_reducible refine (charIsIdentPart_c _ _).mono ?_); rintro e w' ⟨rfl, rfl⟩)
            | (go_at_call 88; (with_reducible refine (slice_c b fb s _ 0 _ i (hat.drewN _) hp0 (by omega) (by omega) hi0 (by omega) (by omega)).mono ?_); rintro e w' ⟨rfl, ⟨n6, rfl⟩⟩)
            | (go_at_call 72; (with_reducible refine (skipN_c b fb s _ i _ (hat.drewN _) ((hL.drewN _).free 9) hp0 (by omega) hi0 (by omega)).mono ?_); rintro e w' ⟨rfl, rfl⟩)
            | (go_at_call 89; (with_reducible refine (toUpper_c _ _ (by rw [ByteArray.size_extract]; omega)).mono ?_); rintro e W ⟨rfl, hbW⟩; have hLW := ((hL.drewN _).set9 _).below hbW; have hUW := (((Ups.refl b w).drewN _).set 9 _).below hbW; have K1 := hLW.c1; have Y1 := hLW.free 1; have K5 := hLW.c5; have Y5 := hLW.free 5)
            | (go_at_call 90; (with_reducible refine (zzKeyword_c _ _).mono ?_); rintro e w' ⟨rfl, rfl⟩))
            (try simp only [Exit.inBlock, Exit.then]); refine bodyPost_ret (results_none rfl _ _ _) rfl ?_
            exact ⟨rfl, hUW.set 1 _, by rw [HR.out]; unfold wkind wtxt wordOf; rw [if_pos hk, if_pos hk]; exact hLW.set1 _⟩
          · have hk2 : kw (upS (s.extract x.pos.toNat (x.pos + i).toNat)).toList = false := by simpa using hk
            go_wp2_with (first
            | (go_at_call 75; (with_reducible refine (peekOk_c b fb s _ i _ (hat.drewN _) hp0 (by omega) hi0 (by omega)).mono ?_); rintro e w' ⟨rfl, ⟨n4, rfl⟩⟩)
            | (go_at_call 77; (with_reducible refine (peek_c b fb s _ i _ (hat.drewN _) hp0 (by omega) hi0 (by omega) hlt).mono ?_); rintro e w' ⟨rfl, ⟨n5, rfl⟩⟩)
            | (go_at_call 76; (with_reducible refine (charIsIdentPart_c _ _).mono ?_); rintro e w' ⟨rfl, rfl⟩)
            | (go_at_call 88; (with_reducible refine (slice_c b fb s _ 0 _ i (hat.drewN _) hp0 (by omega) (by omega) hi0 (by omega) (by omega)).mono ?_); rintro e w' ⟨rfl, ⟨n6, rfl⟩⟩)
            | (go_at_call 72; (with_reducible refine (skipN_c b fb s _ i _ (hat.drewN _) ((hL.drewN _).free 9) hp0 (by omega) hi0 (by omega)).mono ?_); rintro e w' ⟨rfl, rfl⟩)
            | (go_at_call 89; (with_reducible refine (toUpper_c _ _ (by rw [ByteArray.size_extract]; omega)).mono ?_); rintro e W ⟨rfl, hbW⟩; have hLW := ((hL.drewN _).set9 _).below hbW; have hUW := (((Ups.refl b w).drewN _).set 9 _).below hbW; have K1 := hLW.c1; have Y1 := hLW.free 1; have K5 := hLW.c5; have Y5 := hLW.free 5)
            | (go_at_call 90; (with_reducible refine (zzKeyword_c _ _).mono ?_); rintro e w' ⟨rfl, rfl⟩))
            (try simp only [Exit.inBlock, Exit.then]); refine bodyPost_ret (results_none rfl _ _ _) rfl ?_
            exact ⟨rfl, (hUW.set 1 _).set 5 _, by rw [HR.out]; unfold wkind wtxt wordOf; rw [if_neg hk, if_neg hk]; exact (hLW.set1 _).set5 _⟩
end Go.Proofs.YtjepdlmcombmcaaGreatDoor.Lx
