/- Literals with letters ahead of them, and words that begin with such letters: what consumeToken leaves. Conditions: the lexer's state; the bytes at its place. -/
import Derived.Test.YtjepdlmcombmcaaGreatDoorNy
namespace Go.Proofs.YtjepdlmcombmcaaGreatDoor.Lx
open Go.RowKit Go.Proofs.YtjepdlmcombmcaaGreatDoorW.PrintWords

theorem Reads.pos {b fb : Nat} {x : St} {p : Int} {r : Option (Kd × Int × Bool)} {w w' : World} {e : Ending} (h : Reads b fb { x with pos := p } r w e w') : Reads b fb x r w e w' := by
  cases r with
  | none => exact h
  | some c => exact h
theorem litR_pos {x : St} {p : Int} {r : Option Int} : litR { x with pos := p } r = litR x r := by
  cases r <;> rfl
theorem mark_cases {c : Int} (h : isMark c = true) : c = 34 ∨ c = 39 := by
  unfold isMark at h
  simp only [Bool.or_eq_true, beq_iff_eq] at h
  exact h
theorem isR_cases {c : Int} (h : isR c = true) : c = 82 ∨ c = 114 := by
  unfold isR at h
  simp only [Bool.or_eq_true, beq_iff_eq] at h
  exact h
theorem isB_cases {c : Int} (h : isB c = true) : c = 66 ∨ c = 98 := by
  unfold isB at h
  simp only [Bool.or_eq_true, beq_iff_eq] at h
  exact h

set_option maxRecDepth 100000 in
set_option maxHeartbeats 4000000 in
theorem preM (w : World) (b fb : Nat) (x : St) (s : ByteArray) (h : Lx0 w b fb s x) (hs : (s.size : Int) ≤ 5000) (hp0 : 0 ≤ x.pos) (hp : x.pos < (s.size : Int)) (hT : Txt s) (c : Int) (hc : bt s x.pos = c) (hcc : c = 34 ∨ c = 39) (R : Option (Kd × Int × Bool)) (HRR : Aside0 (litR x (lit s false false x.pos) = R)) :
    Calls Tryz.prog 54 #[.pointer (some ⟨b, 0, none⟩), .bool false] w (Reads b fb x R w) := by
  have hat := h.at_
  have hd : decide ((s.size : Int) ≤ x.pos) = false := decide_eq_false (by omega)
  have Z1 := h.l.free 1
  have H1 := h.l.c1
  rcases hcc with rfl | rfl
  all_goals
    go_enter Tryz.func54, Tryz.ntmps54
    go_wp2_with (first
      | (go_at_call 69; (with_reducible refine (eof_c b fb s x.pos _ hat).mono ?_); rintro e w' ⟨rfl, ⟨n1, rfl⟩⟩)
      | (go_at_call 77; (with_reducible refine (peek_c b fb s x.pos _ _ (by first | exact hat | exact hat.drewN _) hp0 (by omega) (by omega) (by omega) (by omega)).mono ?_); rintro e w' ⟨rfl, ⟨n2, rfl⟩⟩))
    go_step3
    go_wp2
    go_step3
    go_wp2
    go_loopg [7, 8, 9] 4 (fun kq v7 v8 v9 wr => v7 = .bool false ∧ v8 = .bool false ∧ v9 = .int .i64 0 ∧ Drawn0 w wr)
    case atStart => exact ⟨rfl, rfl, rfl, by repeat (first | exact Drawn0.refl _ | apply Drawn0.step)⟩
    case round =>
      obtain ⟨rfl, rfl, rfl, ⟨m1, rfl⟩⟩ := hrel
      have hd1 : decide (x.pos < (s.size : Int)) = true := decide_eq_true hp
      have hmk : Aside0 (isMark (bt s (x.pos + 0)) = true) := ⟨by rw [Int.add_zero, hc]; rfl⟩
      go_wp2_with (first
        | (go_at_call 75; (with_reducible refine (peekOk_c b fb s x.pos _ _ (by first | exact hat | exact hat.drewN _) hp0 (by omega) (by omega) (by omega)).mono ?_); rintro e w' ⟨rfl, ⟨n4, rfl⟩⟩)
        | (go_at_call 73; (with_reducible refine (peekIs0_c b fb s x.pos _ _ _ (by omega) (by first | exact hat | exact hat.drewN _) hp0 (by omega) (by omega) (by omega)).mono ?_); rintro e w' ⟨rfl, ⟨n3, rfl⟩⟩)
        | (go_at_call 72; (first | (with_reducible refine (skipN_c b fb s x.pos 0 _ (hat.drewN _) ((h.l.drewN _).free 9) hp0 (by omega) (by omega) (by omega)).mono ?_)); rintro e w9 ⟨rfl, hw9⟩; have hX9 : Lx0 w9 b fb s { x with pos := x.pos + 0 } := (by rw [hw9]; exact (h.drewN _).set9 _); have hU9 : Ups b w w9 := (by rw [hw9]; exact ((Ups.refl b w).drewN _).set 9 _); clear hw9)
        | (go_at_call 87; (with_reducible refine (string_c _ b fb _ s hX9 hT (by show 0 ≤ x.pos + 0; omega) (by show x.pos + 0 < (s.size : Int); omega) hmk.out).mono ?_); rintro e w2 hrd; have hrd' := Reads.mono hU9 (Reads.pos hrd); rcases hrd'.split with rfl | ⟨g, rfl⟩))
      · (try simp only [Exit.noGoto, Exit.inBlock, Exit.then]); refine bodyPost_ret (results_none rfl _ _ _) rfl ?_
        rw [litR_pos, Int.add_zero, HRR.out] at hrd'
        exact hrd'
      · rw [litR_pos, Int.add_zero, HRR.out] at hrd'
        exact ⟨rfl, hrd'⟩

set_option maxRecDepth 100000 in
set_option maxHeartbeats 4000000 in
theorem preB (w : World) (b fb : Nat) (x : St) (s : ByteArray) (h : Lx0 w b fb s x) (hs : (s.size : Int) ≤ 5000) (hp0 : 0 ≤ x.pos) (hp : x.pos < (s.size : Int)) (hT : Txt s) (c : Int) (hc : bt s x.pos = c) (hcc : c = 66 ∨ c = 98) (R : Option (Kd × Int × Bool)) (HA1 : Aside0 (isMark (bt s (x.pos + 1)) = true → litR x (lit s false true (x.pos + 1)) = R)) (HA2 : Aside0 (isR (bt s (x.pos + 1)) = true → litR x (lit s true true (x.pos + 2)) = R)) (hlit : Aside0 (isMark (bt s (x.pos + 1)) = true ∨ isR (bt s (x.pos + 1)) = true ∧ isMark (bt s (x.pos + 2)) = true)) :
    Calls Tryz.prog 54 #[.pointer (some ⟨b, 0, none⟩), .bool false] w (Reads b fb x R w) := by
  have hat := h.at_
  have hd : decide ((s.size : Int) ≤ x.pos) = false := decide_eq_false (by omega)
  have Z1 := h.l.free 1
  have H1 := h.l.c1
  obtain ⟨t66, f66, F66⟩ : ∃ t : Bool, (bt s x.pos == 66) = t ∧ t = (c == 66) := ⟨_, by rw [hc], rfl⟩
  obtain ⟨t98, f98, F98⟩ : ∃ t : Bool, (bt s x.pos == 98) = t ∧ t = (c == 98) := ⟨_, by rw [hc], rfl⟩
  obtain ⟨t82, f82, F82⟩ : ∃ t : Bool, (bt s x.pos == 82) = t ∧ t = (c == 82) := ⟨_, by rw [hc], rfl⟩
  obtain ⟨t114, f114, F114⟩ : ∃ t : Bool, (bt s x.pos == 114) = t ∧ t = (c == 114) := ⟨_, by rw [hc], rfl⟩
  rcases hcc with rfl | rfl
  all_goals
    go_enter Tryz.func54, Tryz.ntmps54
    subst F66 F98 F82 F114
    have hin1 : x.pos + 1 < (s.size : Int) := by
      rcases hlit.out with h1 | ⟨h1, _⟩
      · rcases mark_cases h1 with h2 | h2 <;> exact bt_in h2 (by omega) (by omega)
      · rcases isR_cases h1 with h2 | h2 <;> exact bt_in h2 (by omega) (by omega)
    go_wp2_with (first
      | (go_at_call 69; (with_reducible refine (eof_c b fb s x.pos _ hat).mono ?_); rintro e w' ⟨rfl, ⟨n1, rfl⟩⟩)
      | (go_at_call 77; (with_reducible refine (peek_c b fb s x.pos _ _ (by first | exact hat | exact hat.drewN _) hp0 (by omega) (by omega) (by omega) (by omega)).mono ?_); rintro e w' ⟨rfl, ⟨n2, rfl⟩⟩))
    go_step3
    go_wp2
    go_step3
    go_wp2
    go_loopg [7, 8, 9] 4 (fun kq v7 v8 v9 wr => ((v7 = .bool false ∧ v8 = .bool false ∧ v9 = .int .i64 0 ∧ Aside0 (kq = 4)) ∨ (v7 = .bool true ∧ v8 = .bool false ∧ v9 = .int .i64 1 ∧ Aside0 (kq = 3)) ∨ (v7 = .bool true ∧ v8 = .bool true ∧ v9 = .int .i64 2 ∧ Aside0 (kq = 2 ∧ isR (bt s (x.pos + 1)) = true ∧ isMark (bt s (x.pos + 2)) = true))) ∧ Drawn0 w wr)
    case atStart => exact ⟨.inl ⟨rfl, rfl, rfl, ⟨rfl⟩⟩, by repeat (first | exact Drawn0.refl _ | apply Drawn0.step)⟩
    case round =>
      have hd0 : decide (x.pos < (s.size : Int)) = true := decide_eq_true hp
      have hd1 : decide (x.pos + 1 < (s.size : Int)) = true := decide_eq_true hin1
      obtain ⟨hst, ⟨m1, rfl⟩⟩ := hrel
      rcases hst with ⟨rfl, rfl, rfl, HK⟩ | ⟨rfl, rfl, rfl, HK⟩ | ⟨rfl, rfl, rfl, HK⟩
      · go_wp2_with (first
          | (go_at_call 75; (with_reducible refine (peekOk_c b fb s x.pos _ _ (by first | exact hat | exact hat.drewN _) hp0 (by omega) (by omega) (by omega)).mono ?_); rintro e w' ⟨rfl, ⟨n4, rfl⟩⟩)
          | (go_at_call 73; (with_reducible refine (peekIs0_c b fb s x.pos _ _ _ (by omega) (by first | exact hat | exact hat.drewN _) hp0 (by omega) (by omega) (by omega)).mono ?_); rintro e w' ⟨rfl, ⟨n3, rfl⟩⟩))
        go_roundg 3
        case measure => have := HK.out; omega
        case rel => exact ⟨.inr (.inl ⟨rfl, rfl, rfl, ⟨rfl⟩⟩), by repeat (first | exact Drawn0.refl _ | apply Drawn0.step)⟩
      · have hcs : (bt s (x.pos + 1) = 34 ∨ bt s (x.pos + 1) = 39) ∨ (bt s (x.pos + 1) = 82 ∨ bt s (x.pos + 1) = 114) ∧ Aside0 (isR (bt s (x.pos + 1)) = true ∧ isMark (bt s (x.pos + 2)) = true) := by
          rcases hlit.out with h1 | ⟨h1, h2⟩
          · exact .inl (mark_cases h1)
          · exact .inr ⟨isR_cases h1, ⟨h1, h2⟩⟩
        rcases hcs with hm | ⟨hx, HE⟩
        · have hmk : Aside0 (isMark (bt s (x.pos + 1)) = true) := ⟨by rcases hm with h1 | h1 <;> rw [h1] <;> rfl⟩
          have HRR := Aside0.mk (HA1.out hmk.out)
          rcases hm with hm | hm
          all_goals
            go_wp2_with (first
            | (go_at_call 75; (with_reducible refine (peekOk_c b fb s x.pos _ _ (by first | exact hat | exact hat.drewN _) hp0 (by omega) (by omega) (by omega)).mono ?_); rintro e w' ⟨rfl, ⟨n4, rfl⟩⟩)
            | (go_at_call 73; (with_reducible refine (peekIs0_c b fb s x.pos _ _ _ (by omega) (by first | exact hat | exact hat.drewN _) hp0 (by omega) (by omega) (by omega)).mono ?_); rintro e w' ⟨rfl, ⟨n3, rfl⟩⟩)
            | (go_at_call 72; (first | (with_reducible refine (skipN_c b fb s x.pos 1 _ (hat.drewN _) ((h.l.drewN _).free 9) hp0 (by omega) (by omega) (by omega)).mono ?_)); rintro e w9 ⟨rfl, hw9⟩; have hX9 : Lx0 w9 b fb s { x with pos := x.pos + 1 } := (by rw [hw9]; exact (h.drewN _).set9 _); have hU9 : Ups b w w9 := (by rw [hw9]; exact ((Ups.refl b w).drewN _).set 9 _); clear hw9)
            | (go_at_call 85; (with_reducible refine (bytes_c _ b fb _ s hX9 hT (by show 0 ≤ x.pos + 1; omega) (by show x.pos + 1 < (s.size : Int); omega) hmk.out).mono ?_); rintro e w2 hrd; have hrd' := Reads.mono hU9 (Reads.pos hrd); rcases hrd'.split with rfl | ⟨g, rfl⟩))
            · (try simp only [Exit.noGoto, Exit.inBlock, Exit.then]); refine bodyPost_ret (results_none rfl _ _ _) rfl ?_
              rw [litR_pos, HRR.out] at hrd'
              exact hrd'
            · rw [litR_pos, HRR.out] at hrd'
              exact ⟨rfl, hrd'⟩
        · rcases hx with hx | hx
          all_goals
            go_wp2_with (first
            | (go_at_call 75; (with_reducible refine (peekOk_c b fb s x.pos _ _ (by first | exact hat | exact hat.drewN _) hp0 (by omega) (by omega) (by omega)).mono ?_); rintro e w' ⟨rfl, ⟨n4, rfl⟩⟩)
            | (go_at_call 73; (with_reducible refine (peekIs0_c b fb s x.pos _ _ _ (by omega) (by first | exact hat | exact hat.drewN _) hp0 (by omega) (by omega) (by omega)).mono ?_); rintro e w' ⟨rfl, ⟨n3, rfl⟩⟩))
            go_roundg 2
            case measure => have := HK.out; omega
            case rel => exact ⟨.inr (.inr ⟨rfl, rfl, rfl, ⟨rfl, HE.out.1, HE.out.2⟩⟩), by repeat (first | exact Drawn0.refl _ | apply Drawn0.step)⟩
      · have hmk : Aside0 (isMark (bt s (x.pos + 2)) = true) := ⟨HK.out.2.2⟩
        have HRR := Aside0.mk (HA2.out HK.out.2.1)
        have hm := mark_cases HK.out.2.2
        have hin2 : x.pos + 2 < (s.size : Int) := by rcases hm with h1 | h1 <;> exact bt_in h1 (by omega) (by omega)
        have hd2 : decide (x.pos + 2 < (s.size : Int)) = true := decide_eq_true hin2
        rcases hm with hm | hm
        all_goals
          go_wp2_with (first
            | (go_at_call 75; (with_reducible refine (peekOk_c b fb s x.pos _ _ (by first | exact hat | exact hat.drewN _) hp0 (by omega) (by omega) (by omega)).mono ?_); rintro e w' ⟨rfl, ⟨n4, rfl⟩⟩)
            | (go_at_call 73; (with_reducible refine (peekIs0_c b fb s x.pos _ _ _ (by omega) (by first | exact hat | exact hat.drewN _) hp0 (by omega) (by omega) (by omega)).mono ?_); rintro e w' ⟨rfl, ⟨n3, rfl⟩⟩)
            | (go_at_call 72; (first | (with_reducible refine (skipN_c b fb s x.pos 2 _ (hat.drewN _) ((h.l.drewN _).free 9) hp0 (by omega) (by omega) (by omega)).mono ?_)); rintro e w9 ⟨rfl, hw9⟩; have hX9 : Lx0 w9 b fb s { x with pos := x.pos + 2 } := (by rw [hw9]; exact (h.drewN _).set9 _); have hU9 : Ups b w w9 := (by rw [hw9]; exact ((Ups.refl b w).drewN _).set 9 _); clear hw9)
            | (go_at_call 84; (with_reducible refine (rawBytes_c _ b fb _ s hX9 hT (by show 0 ≤ x.pos + 2; omega) (by show x.pos + 2 < (s.size : Int); omega) hmk.out).mono ?_); rintro e w2 hrd; have hrd' := Reads.mono hU9 (Reads.pos hrd); rcases hrd'.split with rfl | ⟨g, rfl⟩))
          · (try simp only [Exit.noGoto, Exit.inBlock, Exit.then]); refine bodyPost_ret (results_none rfl _ _ _) rfl ?_
            rw [litR_pos, HRR.out] at hrd'
            exact hrd'
          · rw [litR_pos, HRR.out] at hrd'
            exact ⟨rfl, hrd'⟩

set_option maxRecDepth 100000 in
set_option maxHeartbeats 4000000 in
theorem preR (w : World) (b fb : Nat) (x : St) (s : ByteArray) (h : Lx0 w b fb s x) (hs : (s.size : Int) ≤ 5000) (hp0 : 0 ≤ x.pos) (hp : x.pos < (s.size : Int)) (hT : Txt s) (c : Int) (hc : bt s x.pos = c) (hcc : c = 82 ∨ c = 114) (R : Option (Kd × Int × Bool)) (HA1 : Aside0 (isMark (bt s (x.pos + 1)) = true → litR x (lit s true false (x.pos + 1)) = R)) (HA2 : Aside0 (isB (bt s (x.pos + 1)) = true → litR x (lit s true true (x.pos + 2)) = R)) (hlit : Aside0 (isMark (bt s (x.pos + 1)) = true ∨ isB (bt s (x.pos + 1)) = true ∧ isMark (bt s (x.pos + 2)) = true)) :
    Calls Tryz.prog 54 #[.pointer (some ⟨b, 0, none⟩), .bool false] w (Reads b fb x R w) := by
  have hat := h.at_
  have hd : decide ((s.size : Int) ≤ x.pos) = false := decide_eq_false (by omega)
  have Z1 := h.l.free 1
  have H1 := h.l.c1
  obtain ⟨t66, f66, F66⟩ : ∃ t : Bool, (bt s x.pos == 66) = t ∧ t = (c == 66) := ⟨_, by rw [hc], rfl⟩
  obtain ⟨t98, f98, F98⟩ : ∃ t : Bool, (bt s x.pos == 98) = t ∧ t = (c == 98) := ⟨_, by rw [hc], rfl⟩
  obtain ⟨t82, f82, F82⟩ : ∃ t : Bool, (bt s x.pos == 82) = t ∧ t = (c == 82) := ⟨_, by rw [hc], rfl⟩
  obtain ⟨t114, f114, F114⟩ : ∃ t : Bool, (bt s x.pos == 114) = t ∧ t = (c == 114) := ⟨_, by rw [hc], rfl⟩
  rcases hcc with rfl | rfl
  all_goals
    go_enter Tryz.func54, Tryz.ntmps54
    subst F66 F98 F82 F114
    have hin1 : x.pos + 1 < (s.size : Int) := by
      rcases hlit.out with h1 | ⟨h1, _⟩
      · rcases mark_cases h1 with h2 | h2 <;> exact bt_in h2 (by omega) (by omega)
      · rcases isB_cases h1 with h2 | h2 <;> exact bt_in h2 (by omega) (by omega)
    go_wp2_with (first
      | (go_at_call 69; (with_reducible refine (eof_c b fb s x.pos _ hat).mono ?_); rintro e w' ⟨rfl, ⟨n1, rfl⟩⟩)
      | (go_at_call 77; (with_reducible refine (peek_c b fb s x.pos _ _ (by first | exact hat | exact hat.drewN _) hp0 (by omega) (by omega) (by omega) (by omega)).mono ?_); rintro e w' ⟨rfl, ⟨n2, rfl⟩⟩))
    go_step3
    go_wp2
    go_step3
    go_wp2
    go_loopg [7, 8, 9] 4 (fun kq v7 v8 v9 wr => ((v7 = .bool false ∧ v8 = .bool false ∧ v9 = .int .i64 0 ∧ Aside0 (kq = 4)) ∨ (v7 = .bool false ∧ v8 = .bool true ∧ v9 = .int .i64 1 ∧ Aside0 (kq = 3)) ∨ (v7 = .bool true ∧ v8 = .bool true ∧ v9 = .int .i64 2 ∧ Aside0 (kq = 2 ∧ isB (bt s (x.pos + 1)) = true ∧ isMark (bt s (x.pos + 2)) = true))) ∧ Drawn0 w wr)
    case atStart => exact ⟨.inl ⟨rfl, rfl, rfl, ⟨rfl⟩⟩, by repeat (first | exact Drawn0.refl _ | apply Drawn0.step)⟩
    case round =>
      have hd0 : decide (x.pos < (s.size : Int)) = true := decide_eq_true hp
      have hd1 : decide (x.pos + 1 < (s.size : Int)) = true := decide_eq_true hin1
      obtain ⟨hst, ⟨m1, rfl⟩⟩ := hrel
      rcases hst with ⟨rfl, rfl, rfl, HK⟩ | ⟨rfl, rfl, rfl, HK⟩ | ⟨rfl, rfl, rfl, HK⟩
      · go_wp2_with (first
          | (go_at_call 75; (with_reducible refine (peekOk_c b fb s x.pos _ _ (by first | exact hat | exact hat.drewN _) hp0 (by omega) (by omega) (by omega)).mono ?_); rintro e w' ⟨rfl, ⟨n4, rfl⟩⟩)
          | (go_at_call 73; (with_reducible refine (peekIs0_c b fb s x.pos _ _ _ (by omega) (by first | exact hat | exact hat.drewN _) hp0 (by omega) (by omega) (by omega)).mono ?_); rintro e w' ⟨rfl, ⟨n3, rfl⟩⟩))
        go_roundg 3
        case measure => have := HK.out; omega
        case rel => exact ⟨.inr (.inl ⟨rfl, rfl, rfl, ⟨rfl⟩⟩), by repeat (first | exact Drawn0.refl _ | apply Drawn0.step)⟩
      · have hcs : (bt s (x.pos + 1) = 34 ∨ bt s (x.pos + 1) = 39) ∨ (bt s (x.pos + 1) = 66 ∨ bt s (x.pos + 1) = 98) ∧ Aside0 (isB (bt s (x.pos + 1)) = true ∧ isMark (bt s (x.pos + 2)) = true) := by
          rcases hlit.out with h1 | ⟨h1, h2⟩
          · exact .inl (mark_cases h1)
          · exact .inr ⟨isB_cases h1, ⟨h1, h2⟩⟩
        rcases hcs with hm | ⟨hx, HE⟩
        · have hmk : Aside0 (isMark (bt s (x.pos + 1)) = true) := ⟨by rcases hm with h1 | h1 <;> rw [h1] <;> rfl⟩
          have HRR := Aside0.mk (HA1.out hmk.out)
          rcases hm with hm | hm
          all_goals
            go_wp2_with (first
            | (go_at_call 75; (with_reducible refine (peekOk_c b fb s x.pos _ _ (by first | exact hat | exact hat.drewN _) hp0 (by omega) (by omega) (by omega)).mono ?_); rintro e w' ⟨rfl, ⟨n4, rfl⟩⟩)
            | (go_at_call 73; (with_reducible refine (peekIs0_c b fb s x.pos _ _ _ (by omega) (by first | exact hat | exact hat.drewN _) hp0 (by omega) (by omega) (by omega)).mono ?_); rintro e w' ⟨rfl, ⟨n3, rfl⟩⟩)
            | (go_at_call 72; (first | (with_reducible refine (skipN_c b fb s x.pos 1 _ (hat.drewN _) ((h.l.drewN _).free 9) hp0 (by omega) (by omega) (by omega)).mono ?_)); rintro e w9 ⟨rfl, hw9⟩; have hX9 : Lx0 w9 b fb s { x with pos := x.pos + 1 } := (by rw [hw9]; exact (h.drewN _).set9 _); have hU9 : Ups b w w9 := (by rw [hw9]; exact ((Ups.refl b w).drewN _).set 9 _); clear hw9)
            | (go_at_call 86; (with_reducible refine (rawString_c _ b fb _ s hX9 hT (by show 0 ≤ x.pos + 1; omega) (by show x.pos + 1 < (s.size : Int); omega) hmk.out).mono ?_); rintro e w2 hrd; have hrd' := Reads.mono hU9 (Reads.pos hrd); rcases hrd'.split with rfl | ⟨g, rfl⟩))
            · (try simp only [Exit.noGoto, Exit.inBlock, Exit.then]); refine bodyPost_ret (results_none rfl _ _ _) rfl ?_
              rw [litR_pos, HRR.out] at hrd'
              exact hrd'
            · rw [litR_pos, HRR.out] at hrd'
              exact ⟨rfl, hrd'⟩
        · rcases hx with hx | hx
          all_goals
            go_wp2_with (first
            | (go_at_call 75; (with_reducible refine (peekOk_c b fb s x.pos _ _ (by first | exact hat | exact hat.drewN _) hp0 (by omega) (by omega) (by omega)).mono ?_); rintro e w' ⟨rfl, ⟨n4, rfl⟩⟩)
            | (go_at_call 73; (with_reducible refine (peekIs0_c b fb s x.pos _ _ _ (by omega) (by first | exact hat | exact hat.drewN _) hp0 (by omega) (by omega) (by omega)).mono ?_); rintro e w' ⟨rfl, ⟨n3, rfl⟩⟩))
            go_roundg 2
            case measure => have := HK.out; omega
            case rel => exact ⟨.inr (.inr ⟨rfl, rfl, rfl, ⟨rfl, HE.out.1, HE.out.2⟩⟩), by repeat (first | exact Drawn0.refl _ | apply Drawn0.step)⟩
      · have hmk : Aside0 (isMark (bt s (x.pos + 2)) = true) := ⟨HK.out.2.2⟩
        have HRR := Aside0.mk (HA2.out HK.out.2.1)
        have hm := mark_cases HK.out.2.2
        have hin2 : x.pos + 2 < (s.size : Int) := by rcases hm with h1 | h1 <;> exact bt_in h1 (by omega) (by omega)
        have hd2 : decide (x.pos + 2 < (s.size : Int)) = true := decide_eq_true hin2
        rcases hm with hm | hm
        all_goals
          go_wp2_with (first
            | (go_at_call 75; (with_reducible refine (peekOk_c b fb s x.pos _ _ (by first | exact hat | exact hat.drewN _) hp0 (by omega) (by omega) (by omega)).mono ?_); rintro e w' ⟨rfl, ⟨n4, rfl⟩⟩)
            | (go_at_call 73; (with_reducible refine (peekIs0_c b fb s x.pos _ _ _ (by omega) (by first | exact hat | exact hat.drewN _) hp0 (by omega) (by omega) (by omega)).mono ?_); rintro e w' ⟨rfl, ⟨n3, rfl⟩⟩)
            | (go_at_call 72; (first | (with_reducible refine (skipN_c b fb s x.pos 2 _ (hat.drewN _) ((h.l.drewN _).free 9) hp0 (by omega) (by omega) (by omega)).mono ?_)); rintro e w9 ⟨rfl, hw9⟩; have hX9 : Lx0 w9 b fb s { x with pos := x.pos + 2 } := (by rw [hw9]; exact (h.drewN _).set9 _); have hU9 : Ups b w w9 := (by rw [hw9]; exact ((Ups.refl b w).drewN _).set 9 _); clear hw9)
            | (go_at_call 84; (with_reducible refine (rawBytes_c _ b fb _ s hX9 hT (by show 0 ≤ x.pos + 2; omega) (by show x.pos + 2 < (s.size : Int); omega) hmk.out).mono ?_); rintro e w2 hrd; have hrd' := Reads.mono hU9 (Reads.pos hrd); rcases hrd'.split with rfl | ⟨g, rfl⟩))
          · (try simp only [Exit.noGoto, Exit.inBlock, Exit.then]); refine bodyPost_ret (results_none rfl _ _ _) rfl ?_
            rw [litR_pos, HRR.out] at hrd'
            exact hrd'
          · rw [litR_pos, HRR.out] at hrd'
            exact ⟨rfl, hrd'⟩
end Go.Proofs.YtjepdlmcombmcaaGreatDoor.Lx
