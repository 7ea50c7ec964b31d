/- Words that begin with b, B, r or R: what consumeToken leaves. Conditions: the lexer's state; the bytes are no literal's beginning. -/
import Derived.Test.YtjepdlmcombmcaaGreatDoorQa
import Derived.Test.YtjepdlmcombmcaaGreatDoorNz
namespace Go.Proofs.YtjepdlmcombmcaaGreatDoor.Lx
open Go.RowKit Go.Proofs.YtjepdlmcombmcaaGreatDoorW.PrintWords

def wordR (s : ByteArray) (x : St) : Option (Kd × Int × Bool) := some (if kw (upS (wordOf s x.pos (run isPart s x.pos))).toList = true then .other else .field, run isPart s x.pos, x.dot)
theorem word_from {w wr : World} {b fb : Nat} {x : St} {s : ByteArray} {act : Act} (h : Lx0 wr b fb s x) (hU : Ups b w wr) (hs : (s.size : Int) ≤ 5000) (hp0 : 0 ≤ x.pos) (hp : x.pos < (s.size : Int)) (hl : isLetter (bt s x.pos) = true)
    (hact : ∃ a0 a1 a2 a3 a4 a5 a6 a7 a8 a9 a10 a11 a12 a13 a14 a15 a16 a17 a18 a19 a20 a21 a22 a23 : U20, act = frame54 b a0 a1 a2 a3 a4 a5 a6 a7 a8 a9 a10 a11 a12 a13 a14 a15 a16 a17 a18 a19 a20 a21 a22 a23) : Code.wp Tryz.prog (tailOf 139 Tryz.f54) (bodyPost Tryz.prog Tryz.f54 (Reads b fb x (wordR s x) w)) act wr := by
  obtain ⟨a0, a1, a2, a3, a4, a5, a6, a7, a8, a9, a10, a11, a12, a13, a14, a15, a16, a17, a18, a19, a20, a21, a22, a23, rfl⟩ := hact
  exact word_tail w wr b fb x s h hU hs hp0 hp hl a0 a1 a2 a3 a4 a5 a6 a7 a8 a9 a10 a11 a12 a13 a14 a15 a16 a17 a18 a19 a20 a21 a22 a23
theorem not_mark {c : Int} (h : isMark c = false) : (c == 34) = false ∧ (c == 39) = false := by
  unfold isMark at h
  simpa only [Bool.or_eq_false_iff] using h
theorem not_R {c : Int} (h : isR c = false) : (c == 82) = false ∧ (c == 114) = false := by
  unfold isR at h
  simpa only [Bool.or_eq_false_iff] using h
theorem not_B {c : Int} (h : isB c = false) : (c == 66) = false ∧ (c == 98) = false := by
  unfold isB at h
  simpa only [Bool.or_eq_false_iff] using h

set_option maxRecDepth 100000 in
set_option maxHeartbeats 4000000 in
theorem wrdB (w : World) (b fb : Nat) (x : St) (s : ByteArray) (h : Lx0 w b fb s x) (hs : (s.size : Int) ≤ 5000) (hp0 : 0 ≤ x.pos) (hp : x.pos < (s.size : Int)) (c : Int) (hc : bt s x.pos = c) (hcc : c = 66 ∨ c = 98) (hnm : Aside0 (isMark (bt s (x.pos + 1)) = false)) (hno : Aside0 (isR (bt s (x.pos + 1)) = true → isMark (bt s (x.pos + 2)) = false)) :
    Calls Tryz.prog 54 #[.pointer (some ⟨b, 0, none⟩), .bool false] w (Reads b fb x (wordR s x) w) := by
  have hat := h.at_
  have hd : decide ((s.size : Int) ≤ x.pos) = false := decide_eq_false (by omega)
  have Z1 := h.l.free 1
  have H1 := h.l.c1
  rcases hcc with rfl | rfl
  all_goals
    go_enter Tryz.func54, Tryz.ntmps54
    have hl : isLetter (bt s x.pos) = true := by rw [hc]; rfl
    go_wp2_with (first
      | (go_at_call 69; (with_reducible refine (eof_c b fb s x.pos _ hat).mono ?_); rintro e w' ⟨rfl, ⟨n1, rfl⟩⟩)
      | (go_at_call 77; (with_reducible refine (peek_c b fb s x.pos _ _ (by first | exact hat | exact hat.drewN _) hp0 (by omega) (by omega) (by omega) (by omega)).mono ?_); rintro e w' ⟨rfl, ⟨n2, rfl⟩⟩))
    go_step3
    go_wp2
    go_step3
    go_wp2
    go_loopg [7, 8, 9] 4 (fun kq v7 v8 v9 wr => ((v7 = .bool false ∧ v8 = .bool false ∧ v9 = .int .i64 0 ∧ Aside0 (kq = 4)) ∨ (v7 = .bool true ∧ v8 = .bool false ∧ v9 = .int .i64 1 ∧ Aside0 (kq = 3)) ∨ (v7 = .bool true ∧ v8 = .bool true ∧ v9 = .int .i64 2 ∧ Aside0 (kq = 2 ∧ isR (bt s (x.pos + 1)) = true))) ∧ Drawn0 w wr)
    case atStart => exact ⟨.inl ⟨rfl, rfl, rfl, ⟨rfl⟩⟩, by repeat (first | exact Drawn0.refl _ | apply Drawn0.step)⟩
    case round =>
      have hd0 : decide (x.pos < (s.size : Int)) = true := decide_eq_true hp
      obtain ⟨hst, ⟨m1, rfl⟩⟩ := hrel
      rcases hst with ⟨rfl, rfl, rfl, HK⟩ | ⟨rfl, rfl, rfl, HK⟩ | ⟨rfl, rfl, rfl, HK⟩
      · go_wp2_with (first
          | (go_at_call 75; (with_reducible refine (peekOk_c b fb s x.pos _ _ (by first | exact hat | exact hat.drewN _) hp0 (by omega) (by omega) (by omega)).mono ?_); rintro e w' ⟨rfl, ⟨n4, rfl⟩⟩)
          | (go_at_call 73; (with_reducible refine (peekIs0_c b fb s x.pos _ _ _ (by omega) (by first | exact hat | exact hat.drewN _) hp0 (by omega) (by omega) (by omega)).mono ?_); rintro e w' ⟨rfl, ⟨n3, rfl⟩⟩))
        go_roundg 3
        case measure => have := HK.out; omega
        case rel => exact ⟨.inr (.inl ⟨rfl, rfl, rfl, ⟨rfl⟩⟩), by repeat (first | exact Drawn0.refl _ | apply Drawn0.step)⟩
      · obtain ⟨g34, g39⟩ := not_mark hnm.out
        by_cases hin1 : x.pos + 1 < (s.size : Int)
        · have hd1 : decide (x.pos + 1 < (s.size : Int)) = true := decide_eq_true hin1
          cases hX : isR (bt s (x.pos + 1)) with
          | true =>
            have HX := Aside0.mk hX
            rcases isR_cases hX with hx | hx
            all_goals
              clear hX g34 g39
              go_wp2_with (first
                | (go_at_call 75; (with_reducible refine (peekOk_c b fb s x.pos _ _ (by first | exact hat | exact hat.drewN _) hp0 (by omega) (by omega) (by omega)).mono ?_); rintro e w' ⟨rfl, ⟨n4, rfl⟩⟩)
                | (go_at_call 73; (with_reducible refine (peekIs0_c b fb s x.pos _ _ _ (by omega) (by first | exact hat | exact hat.drewN _) hp0 (by omega) (by omega) (by omega)).mono ?_); rintro e w' ⟨rfl, ⟨n3, rfl⟩⟩))
              go_roundg 2
              case measure => have := HK.out; omega
              case rel => exact ⟨.inr (.inr ⟨rfl, rfl, rfl, ⟨rfl, HX.out⟩⟩), by repeat (first | exact Drawn0.refl _ | apply Drawn0.step)⟩
          | false =>
            obtain ⟨gx1, gx2⟩ := not_R hX
            clear hX
            go_wp2_with (first
              | (go_at_call 75; (with_reducible refine (peekOk_c b fb s x.pos _ _ (by first | exact hat | exact hat.drewN _) hp0 (by omega) (by omega) (by omega)).mono ?_); rintro e w' ⟨rfl, ⟨n4, rfl⟩⟩)
              | (go_at_call 73; (with_reducible refine (peekIs0_c b fb s x.pos _ _ _ (by omega) (by first | exact hat | exact hat.drewN _) hp0 (by omega) (by omega) (by omega)).mono ?_); rintro e w' ⟨rfl, ⟨n3, rfl⟩⟩))
            simp only [Exit.noGoto]
            refine (‹∀ (a : Act) (w' : World), Code.wp Tryz.prog _ (bodyPost Tryz.prog Tryz.f54 _) a w' → _›) _ _ ?_
            exact word_from (h.drewN _) ((Ups.refl b w).drewN _) hs hp0 hp hl to_frame54
        · have hd1 : decide (x.pos + 1 < (s.size : Int)) = false := decide_eq_false hin1
          go_wp2_with (first
            | (go_at_call 75; (with_reducible refine (peekOk_c b fb s x.pos _ _ (by first | exact hat | exact hat.drewN _) hp0 (by omega) (by omega) (by omega)).mono ?_); rintro e w' ⟨rfl, ⟨n4, rfl⟩⟩)
            | (go_at_call 73; (with_reducible refine (peekIs0_c b fb s x.pos _ _ _ (by omega) (by first | exact hat | exact hat.drewN _) hp0 (by omega) (by omega) (by omega)).mono ?_); rintro e w' ⟨rfl, ⟨n3, rfl⟩⟩))
          simp only [Exit.noGoto]
          refine (‹∀ (a : Act) (w' : World), Code.wp Tryz.prog _ (bodyPost Tryz.prog Tryz.f54 _) a w' → _›) _ _ ?_
          exact word_from (h.drewN _) ((Ups.refl b w).drewN _) hs hp0 hp hl to_frame54
      · obtain ⟨g34, g39⟩ := not_mark (hno.out HK.out.2)
        by_cases hin2 : x.pos + 2 < (s.size : Int)
        · have hd2 : decide (x.pos + 2 < (s.size : Int)) = true := decide_eq_true hin2
          go_wp2_with (first
            | (go_at_call 75; (with_reducible refine (peekOk_c b fb s x.pos _ _ (by first | exact hat | exact hat.drewN _) hp0 (by omega) (by omega) (by omega)).mono ?_); rintro e w' ⟨rfl, ⟨n4, rfl⟩⟩)
            | (go_at_call 73; (with_reducible refine (peekIs0_c b fb s x.pos _ _ _ (by omega) (by first | exact hat | exact hat.drewN _) hp0 (by omega) (by omega) (by omega)).mono ?_); rintro e w' ⟨rfl, ⟨n3, rfl⟩⟩))
          simp only [Exit.noGoto]
          refine (‹∀ (a : Act) (w' : World), Code.wp Tryz.prog _ (bodyPost Tryz.prog Tryz.f54 _) a w' → _›) _ _ ?_
          exact word_from (h.drewN _) ((Ups.refl b w).drewN _) hs hp0 hp hl to_frame54
        · have hd2 : decide (x.pos + 2 < (s.size : Int)) = false := decide_eq_false hin2
          go_wp2_with (first
            | (go_at_call 75; (with_reducible refine (peekOk_c b fb s x.pos _ _ (by first | exact hat | exact hat.drewN _) hp0 (by omega) (by omega) (by omega)).mono ?_); rintro e w' ⟨rfl, ⟨n4, rfl⟩⟩)
            | (go_at_call 73; (with_reducible refine (peekIs0_c b fb s x.pos _ _ _ (by omega) (by first | exact hat | exact hat.drewN _) hp0 (by omega) (by omega) (by omega)).mono ?_); rintro e w' ⟨rfl, ⟨n3, rfl⟩⟩))
          simp only [Exit.noGoto]
          refine (‹∀ (a : Act) (w' : World), Code.wp Tryz.prog _ (bodyPost Tryz.prog Tryz.f54 _) a w' → _›) _ _ ?_
          exact word_from (h.drewN _) ((Ups.refl b w).drewN _) hs hp0 hp hl to_frame54

set_option maxRecDepth 100000 in
set_option maxHeartbeats 4000000 in
theorem wrdR (w : World) (b fb : Nat) (x : St) (s : ByteArray) (h : Lx0 w b fb s x) (hs : (s.size : Int) ≤ 5000) (hp0 : 0 ≤ x.pos) (hp : x.pos < (s.size : Int)) (c : Int) (hc : bt s x.pos = c) (hcc : c = 82 ∨ c = 114) (hnm : Aside0 (isMark (bt s (x.pos + 1)) = false)) (hno : Aside0 (isB (bt s (x.pos + 1)) = true → isMark (bt s (x.pos + 2)) = false)) :
    Calls Tryz.prog 54 #[.pointer (some ⟨b, 0, none⟩), .bool false] w (Reads b fb x (wordR s x) w) := by
  have hat := h.at_
  have hd : decide ((s.size : Int) ≤ x.pos) = false := decide_eq_false (by omega)
  have Z1 := h.l.free 1
  have H1 := h.l.c1
  rcases hcc with rfl | rfl
  all_goals
    go_enter Tryz.func54, Tryz.ntmps54
    have hl : isLetter (bt s x.pos) = true := by rw [hc]; rfl
    go_wp2_with (first
      | (go_at_call 69; (with_reducible refine (eof_c b fb s x.pos _ hat).mono ?_); rintro e w' ⟨rfl, ⟨n1, rfl⟩⟩)
      | (go_at_call 77; (with_reducible refine (peek_c b fb s x.pos _ _ (by first | exact hat | exact hat.drewN _) hp0 (by omega) (by omega) (by omega) (by omega)).mono ?_); rintro e w' ⟨rfl, ⟨n2, rfl⟩⟩))
    go_step3
    go_wp2
    go_step3
    go_wp2
    go_loopg [7, 8, 9] 4 (fun kq v7 v8 v9 wr => ((v7 = .bool false ∧ v8 = .bool false ∧ v9 = .int .i64 0 ∧ Aside0 (kq = 4)) ∨ (v7 = .bool false ∧ v8 = .bool true ∧ v9 = .int .i64 1 ∧ Aside0 (kq = 3)) ∨ (v7 = .bool true ∧ v8 = .bool true ∧ v9 = .int .i64 2 ∧ Aside0 (kq = 2 ∧ isB (bt s (x.pos + 1)) = true))) ∧ Drawn0 w wr)
    case atStart => exact ⟨.inl ⟨rfl, rfl, rfl, ⟨rfl⟩⟩, by repeat (first | exact Drawn0.refl _ | apply Drawn0.step)⟩
    case round =>
      have hd0 : decide (x.pos < (s.size : Int)) = true := decide_eq_true hp
      obtain ⟨hst, ⟨m1, rfl⟩⟩ := hrel
      rcases hst with ⟨rfl, rfl, rfl, HK⟩ | ⟨rfl, rfl, rfl, HK⟩ | ⟨rfl, rfl, rfl, HK⟩
      · go_wp2_with (first
          | (go_at_call 75; (with_reducible refine (peekOk_c b fb s x.pos _ _ (by first | exact hat | exact hat.drewN _) hp0 (by omega) (by omega) (by omega)).mono ?_); rintro e w' ⟨rfl, ⟨n4, rfl⟩⟩)
          | (go_at_call 73; (with_reducible refine (peekIs0_c b fb s x.pos _ _ _ (by omega) (by first | exact hat | exact hat.drewN _) hp0 (by omega) (by omega) (by omega)).mono ?_); rintro e w' ⟨rfl, ⟨n3, rfl⟩⟩))
        go_roundg 3
        case measure => have := HK.out; omega
        case rel => exact ⟨.inr (.inl ⟨rfl, rfl, rfl, ⟨rfl⟩⟩), by repeat (first | exact Drawn0.refl _ | apply Drawn0.step)⟩
      · obtain ⟨g34, g39⟩ := not_mark hnm.out
        by_cases hin1 : x.pos + 1 < (s.size : Int)
        · have hd1 : decide (x.pos + 1 < (s.size : Int)) = true := decide_eq_true hin1
          cases hX : isB (bt s (x.pos + 1)) with
          | true =>
            have HX := Aside0.mk hX
            rcases isB_cases hX with hx | hx
            all_goals
              clear hX g34 g39
              go_wp2_with (first
                | (go_at_call 75; (with_reducible refine (peekOk_c b fb s x.pos _ _ (by first | exact hat | exact hat.drewN _) hp0 (by omega) (by omega) (by omega)).mono ?_); rintro e w' ⟨rfl, ⟨n4, rfl⟩⟩)
                | (go_at_call 73; (with_reducible refine (peekIs0_c b fb s x.pos _ _ _ (by omega) (by first | exact hat | exact hat.drewN _) hp0 (by omega) (by omega) (by omega)).mono ?_); rintro e w' ⟨rfl, ⟨n3, rfl⟩⟩))
              go_roundg 2
              case measure => have := HK.out; omega
              case rel => exact ⟨.inr (.inr ⟨rfl, rfl, rfl, ⟨rfl, HX.out⟩⟩), by repeat (first | exact Drawn0.refl _ | apply Drawn0.step)⟩
          | false =>
            obtain ⟨gx1, gx2⟩ := not_B hX
            clear hX
            go_wp2_with (first
              | (go_at_call 75; (with_reducible refine (peekOk_c b fb s x.pos _ _ (by first | exact hat | exact hat.drewN _) hp0 (by omega) (by omega) (by omega)).mono ?_); rintro e w' ⟨rfl, ⟨n4, rfl⟩⟩)
              | (go_at_call 73; (with_reducible refine (peekIs0_c b fb s x.pos _ _ _ (by omega) (by first | exact hat | exact hat.drewN _) hp0 (by omega) (by omega) (by omega)).mono ?_); rintro e w' ⟨rfl, ⟨n3, rfl⟩⟩))
            simp only [Exit.noGoto]
            refine (‹∀ (a : Act) (w' : World), Code.wp Tryz.prog _ (bodyPost Tryz.prog Tryz.f54 _) a w' → _›) _ _ ?_
            exact word_from (h.drewN _) ((Ups.refl b w).drewN _) hs hp0 hp hl to_frame54
        · have hd1 : decide (x.pos + 1 < (s.size : Int)) = false := decide_eq_false hin1
          go_wp2_with (first
            | (go_at_call 75; (with_reducible refine (peekOk_c b fb s x.pos _ _ (by first | exact hat | exact hat.drewN _) hp0 (by omega) (by omega) (by omega)).mono ?_); rintro e w' ⟨rfl, ⟨n4, rfl⟩⟩)
            | (go_at_call 73; (with_reducible refine (peekIs0_c b fb s x.pos _ _ _ (by omega) (by first | exact hat | exact hat.drewN _) hp0 (by omega) (by omega) (by omega)).mono ?_); rintro e w' ⟨rfl, ⟨n3, rfl⟩⟩))
          simp only [Exit.noGoto]
          refine (‹∀ (a : Act) (w' : World), Code.wp Tryz.prog _ (bodyPost Tryz.prog Tryz.f54 _) a w' → _›) _ _ ?_
          exact word_from (h.drewN _) ((Ups.refl b w).drewN _) hs hp0 hp hl to_frame54
      · obtain ⟨g34, g39⟩ := not_mark (hno.out HK.out.2)
        by_cases hin2 : x.pos + 2 < (s.size : Int)
        · have hd2 : decide (x.pos + 2 < (s.size : Int)) = true := decide_eq_true hin2
          go_wp2_with (first
            | (go_at_call 75; (with_reducible refine (peekOk_c b fb s x.pos _ _ (by first | exact hat | exact hat.drewN _) hp0 (by omega) (by omega) (by omega)).mono ?_); rintro e w' ⟨rfl, ⟨n4, rfl⟩⟩)
            | (go_at_call 73; (with_reducible refine (peekIs0_c b fb s x.pos _ _ _ (by omega) (by first | exact hat | exact hat.drewN _) hp0 (by omega) (by omega) (by omega)).mono ?_); rintro e w' ⟨rfl, ⟨n3, rfl⟩⟩))
          simp only [Exit.noGoto]
          refine (‹∀ (a : Act) (w' : World), Code.wp Tryz.prog _ (bodyPost Tryz.prog Tryz.f54 _) a w' → _›) _ _ ?_
          exact word_from (h.drewN _) ((Ups.refl b w).drewN _) hs hp0 hp hl to_frame54
        · have hd2 : decide (x.pos + 2 < (s.size : Int)) = false := decide_eq_false hin2
          go_wp2_with (first
            | (go_at_call 75; (with_reducible refine (peekOk_c b fb s x.pos _ _ (by first | exact hat | exact hat.drewN _) hp0 (by omega) (by omega) (by omega)).mono ?_); rintro e w' ⟨rfl, ⟨n4, rfl⟩⟩)
            | (go_at_call 73; (with_reducible refine (peekIs0_c b fb s x.pos _ _ _ (by omega) (by first | exact hat | exact hat.drewN _) hp0 (by omega) (by omega) (by omega)).mono ?_); rintro e w' ⟨rfl, ⟨n3, rfl⟩⟩))
          simp only [Exit.noGoto]
          refine (‹∀ (a : Act) (w' : World), Code.wp Tryz.prog _ (bodyPost Tryz.prog Tryz.f54 _) a w' → _›) _ _ ?_
          exact word_from (h.drewN _) ((Ups.refl b w).drewN _) hs hp0 hp hl to_frame54
end Go.Proofs.YtjepdlmcombmcaaGreatDoor.Lx
