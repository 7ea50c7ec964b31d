/- Dots, digits, parameters, quoted names: what consumeToken leaves. Conditions: the lexer's state; the byte at its place. -/
import Derived.Test.YtjepdlmcombmcaaGreatDoorNx
import Derived.Test.YtjepdlmcombmcaaGreatDoorNw
import Derived.Test.YtjepdlmcombmcaaGreatDoorGb
namespace Go.Proofs.YtjepdlmcombmcaaGreatDoor.Lx
open Go.RowKit Go.Proofs.YtjepdlmcombmcaaGreatDoorW.PrintWords

theorem number_c (w : World) (b fb : Nat) (x : St) (s : ByteArray) (h : Lx0 w b fb s x) (hs : (s.size : Int) ≤ 5000) (hp0 : 0 ≤ x.pos) (hp : x.pos < (s.size : Int)) :
    Calls Tryz.prog 81 #[.pointer (some ⟨b, 0, none⟩), .bool false] w (Reads b fb x (numR x (num s x.pos)) w) := by
  cases hx : hexPre s x.pos with
  | true => exact number_hex w b fb x s h hs hp0 hx
  | false => exact number_dec w b fb x s h hs hp0 hp hx
theorem wp_any {P : Program} {c : Code} {Q : Exit → Act → World → Prop} {a : Act} {W : World} (h : ∀ wz, wz = W → Code.wp P c Q a wz) : Code.wp P c Q a W := h W rfl
/-- A call whose ending is told by Reads comes back, or goes out by a fault. -/
theorem Reads.split {b fb : Nat} {x : St} {r : Option (Kd × Int × Bool)} {w w' : World} {e : Ending} (h : Reads b fb x r w e w') : e = .returned (.tuple #[]) ∨ ∃ g, e = .panicked [{ v := .iface 86 (.pointer (some ⟨g, 0, none⟩)), recovered := false }] := by
  cases r with
  | some c => exact .inl h.1
  | none => exact .inr h.1

set_option maxRecDepth 100000 in
set_option maxHeartbeats 4000000 in
theorem dgA (w : World) (b fb : Nat) (x : St) (s : ByteArray) (h : Lx0 w b fb s x) (hs : (s.size : Int) ≤ 5000) (hp0 : 0 ≤ x.pos) (hp : x.pos < (s.size : Int)) (c : Int) (hc : bt s x.pos = c) (hk : c = 48 ∨ c = 49 ∨ c = 50 ∨ c = 51 ∨ c = 52 ∨ c = 53 ∨ c = 54 ∨ c = 55 ∨ c = 56 ∨ c = 57) :
    Calls Tryz.prog 54 #[.pointer (some ⟨b, 0, none⟩), .bool false] w (Reads b fb x (numR x (num s x.pos)) w) := by
  have hat := h.at_
  have hd : decide ((s.size : Int) ≤ x.pos) = false := decide_eq_false (by omega)
  have Z1 := h.l.free 1
  have H1 := h.l.c1
  obtain ⟨R, hR⟩ : ∃ R, numR x (num s x.pos) = R := ⟨_, rfl⟩
  have HR := Aside0.mk hR
  rw [hR]
  clear hR
  rcases hk with rfl | rfl | rfl | rfl | rfl | rfl | rfl | rfl | rfl | rfl
  all_goals
    go_enter Tryz.func54, Tryz.ntmps54
    go_wp2_with (first
      | (go_at_call 69; (with_reducible refine (eof_c b fb s x.pos _ hat).mono ?_); rintro e w' ⟨rfl, ⟨n1, rfl⟩⟩)
      | (go_at_call 77; (with_reducible refine (peek_c b fb s x.pos _ _ (by first | exact hat | exact hat.drewN _) hp0 (by omega) (by omega) (by omega) (by omega)).mono ?_); rintro e w' ⟨rfl, ⟨n2, rfl⟩⟩)
      | (go_at_call 81; (first | (with_reducible refine (number_c _ b fb x s h hs hp0 hp).mono ?_) | (with_reducible refine (number_c _ b fb x s (h.drewN _) hs hp0 hp).mono ?_)); rintro e w2 hrd; rw [HR.out] at hrd; have hrd' := Reads.mono ((Ups.refl b w).drewN _) hrd; rcases hrd'.split with rfl | ⟨g, rfl⟩))
    · (try simp only [Exit.inBlock, Exit.then]); refine bodyPost_ret (results_none rfl _ _ _) rfl ?_
      exact hrd'
    · exact ⟨rfl, hrd'⟩

set_option maxRecDepth 100000 in
set_option maxHeartbeats 1000000 in
theorem dot_f (w : World) (b fb : Nat) (x : St) (s : ByteArray) (h : Lx0 w b fb s x) (hs : (s.size : Int) ≤ 5000) (hp0 : 0 ≤ x.pos) (hp : x.pos < (s.size : Int)) (hc : bt s x.pos = 46) (hf : isFd (kd x.last.toList) = true) :
    Calls Tryz.prog 54 #[.pointer (some ⟨b, 0, none⟩), .bool false] w (Reads b fb x (some (.dot, x.pos + 1, true)) w) := by
  have hat := h.at_
  have hd : decide ((s.size : Int) ≤ x.pos) = false := decide_eq_false (by omega)
  have Z1 := h.l.free 1
  have H1 := h.l.c1
  go_enter Tryz.func54, Tryz.ntmps54
  have c10 := h.l.c10
  have c11 := h.l.c11
  have Z11 := h.l.free 11
  go_wp2_with (first
    | (go_at_call 69; (with_reducible refine (eof_c b fb s x.pos _ hat).mono ?_); rintro e w' ⟨rfl, ⟨n1, rfl⟩⟩)
    | (go_at_call 77; (with_reducible refine (peek_c b fb s x.pos _ _ (by first | exact hat | exact hat.drewN _) hp0 (by omega) (by omega) (by omega) (by omega)).mono ?_); rintro e w' ⟨rfl, ⟨n2, rfl⟩⟩)
    | (go_at_call 79; (with_reducible refine (nextDot_c _ _).mono ?_); rintro e w' ⟨rfl, hw'⟩; obtain rfl := hw'.symm)
    | (go_at_call 78; (with_reducible refine (skip_c b fb s x.pos _ (by first | exact hat | exact hat.drewN _) (by first | exact h.l.free 9 | exact (h.l.drewN _).free 9) hp0 (by omega) hp).mono ?_); rintro e w9 ⟨rfl, ⟨n6, hw9⟩⟩; have hX9 : Lx0 w9 b fb s { x with pos := x.pos + 1 } := (by rw [hw9]; first | exact (h.drewN _).set9 _ | exact ((h.drewN _).drewN _).set9 _); have hU9 : Ups b w w9 := (by rw [hw9]; first | exact ((Ups.refl b w).drewN _).set 9 _ | exact (((Ups.refl b w).drewN _).drewN _).set 9 _); have K1 := hX9.l.c1; have Y1 := hX9.l.free 1; have K11 := hX9.l.c11; have Y11 := hX9.l.free 11; clear hw9))
  (try simp only [Exit.inBlock, Exit.then]); refine bodyPost_ret (results_none rfl _ _ _) rfl ?_
  exact ⟨rfl, (hU9.set 1 _).set 11 _, ⟨#[46]⟩, _, _, kd_lit _ rfl, ((hX9.set1 _).set11 _).l⟩

set_option maxRecDepth 100000 in
set_option maxHeartbeats 1000000 in
theorem dot_e (w : World) (b fb : Nat) (x : St) (s : ByteArray) (h : Lx0 w b fb s x) (hs : (s.size : Int) ≤ 5000) (hp0 : 0 ≤ x.pos) (hp : x.pos < (s.size : Int)) (hc : bt s x.pos = 46) (hf : isFd (kd x.last.toList) = false) (hin : (s.size : Int) ≤ x.pos + 1) :
    Calls Tryz.prog 54 #[.pointer (some ⟨b, 0, none⟩), .bool false] w (Reads b fb x (some (.dot, x.pos + 1, false)) w) := by
  have hat := h.at_
  have hd : decide ((s.size : Int) ≤ x.pos) = false := decide_eq_false (by omega)
  have Z1 := h.l.free 1
  have H1 := h.l.c1
  go_enter Tryz.func54, Tryz.ntmps54
  have c10 := h.l.c10
  have c11 := h.l.c11
  have Z11 := h.l.free 11
  have hd2 : decide (x.pos + 1 < (s.size : Int)) = false := decide_eq_false (by omega)
  go_wp2_with (first
    | (go_at_call 69; (with_reducible refine (eof_c b fb s x.pos _ hat).mono ?_); rintro e w' ⟨rfl, ⟨n1, rfl⟩⟩)
    | (go_at_call 77; (with_reducible refine (peek_c b fb s x.pos _ _ (by first | exact hat | exact hat.drewN _) hp0 (by omega) (by omega) (by omega) (by omega)).mono ?_); rintro e w' ⟨rfl, ⟨n2, rfl⟩⟩)
    | (go_at_call 79; (with_reducible refine (nextDot_c _ _).mono ?_); rintro e w' ⟨rfl, hw'⟩; obtain rfl := hw'.symm)
    | (go_at_call 75; (with_reducible refine (peekOk_c b fb s x.pos _ _ (by first | exact hat | exact hat.drewN _) hp0 (by omega) (by omega) (by omega)).mono ?_); rintro e w' ⟨rfl, ⟨n4, rfl⟩⟩)
    | (go_at_call 78; (with_reducible refine (skip_c b fb s x.pos _ (by first | exact hat | exact hat.drewN _) (by first | exact h.l.free 9 | exact (h.l.drewN _).free 9) hp0 (by omega) hp).mono ?_); rintro e w9 ⟨rfl, ⟨n6, hw9⟩⟩; have hX9 : Lx0 w9 b fb s { x with pos := x.pos + 1 } := (by rw [hw9]; first | exact (h.drewN _).set9 _ | exact ((h.drewN _).drewN _).set9 _); have hU9 : Ups b w w9 := (by rw [hw9]; first | exact ((Ups.refl b w).drewN _).set 9 _ | exact (((Ups.refl b w).drewN _).drewN _).set 9 _); have K1 := hX9.l.c1; have Y1 := hX9.l.free 1; have K11 := hX9.l.c11; have Y11 := hX9.l.free 11; clear hw9))
  (try simp only [Exit.inBlock, Exit.then]); refine bodyPost_ret (results_none rfl _ _ _) rfl ?_
  exact ⟨rfl, (hU9.set 1 _).set 11 _, ⟨#[46]⟩, _, _, kd_lit _ rfl, ((hX9.set1 _).set11 _).l⟩

set_option maxRecDepth 100000 in
set_option maxHeartbeats 1000000 in
theorem dot_n (w : World) (b fb : Nat) (x : St) (s : ByteArray) (h : Lx0 w b fb s x) (hs : (s.size : Int) ≤ 5000) (hp0 : 0 ≤ x.pos) (hp : x.pos < (s.size : Int)) (hc : bt s x.pos = 46) (hf : isFd (kd x.last.toList) = false) (hin : x.pos + 1 < (s.size : Int)) (hdg : isDigit (bt s (x.pos + 1)) = false) :
    Calls Tryz.prog 54 #[.pointer (some ⟨b, 0, none⟩), .bool false] w (Reads b fb x (some (.dot, x.pos + 1, false)) w) := by
  have hat := h.at_
  have hd : decide ((s.size : Int) ≤ x.pos) = false := decide_eq_false (by omega)
  have Z1 := h.l.free 1
  have H1 := h.l.c1
  go_enter Tryz.func54, Tryz.ntmps54
  have c10 := h.l.c10
  have c11 := h.l.c11
  have Z11 := h.l.free 11
  have hd2 : decide (x.pos + 1 < (s.size : Int)) = true := decide_eq_true hin
  go_wp2_with (first
    | (go_at_call 69; (with_reducible refine (eof_c b fb s x.pos _ hat).mono ?_); rintro e w' ⟨rfl, ⟨n1, rfl⟩⟩)
    | (go_at_call 77; (with_reducible refine (peek_c b fb s x.pos _ _ (by first | exact hat | exact hat.drewN _) hp0 (by omega) (by omega) (by omega) (by omega)).mono ?_); rintro e w' ⟨rfl, ⟨n2, rfl⟩⟩)
    | (go_at_call 79; (with_reducible refine (nextDot_c _ _).mono ?_); rintro e w' ⟨rfl, hw'⟩; obtain rfl := hw'.symm)
    | (go_at_call 75; (with_reducible refine (peekOk_c b fb s x.pos _ _ (by first | exact hat | exact hat.drewN _) hp0 (by omega) (by omega) (by omega)).mono ?_); rintro e w' ⟨rfl, ⟨n4, rfl⟩⟩)
    | (go_at_call 80; (with_reducible refine (charIsDigit_c _ _).mono ?_); rintro e w' ⟨rfl, hw'⟩; obtain rfl := hw'.symm)
    | (go_at_call 78; (with_reducible refine (skip_c b fb s x.pos _ (by first | exact hat | exact hat.drewN _) (by first | exact h.l.free 9 | exact (h.l.drewN _).free 9) hp0 (by omega) hp).mono ?_); rintro e w9 ⟨rfl, ⟨n6, hw9⟩⟩; have hX9 : Lx0 w9 b fb s { x with pos := x.pos + 1 } := (by rw [hw9]; first | exact (h.drewN _).set9 _ | exact ((h.drewN _).drewN _).set9 _); have hU9 : Ups b w w9 := (by rw [hw9]; first | exact ((Ups.refl b w).drewN _).set 9 _ | exact (((Ups.refl b w).drewN _).drewN _).set 9 _); have K1 := hX9.l.c1; have Y1 := hX9.l.free 1; have K11 := hX9.l.c11; have Y11 := hX9.l.free 11; clear hw9))
  (try simp only [Exit.inBlock, Exit.then]); refine bodyPost_ret (results_none rfl _ _ _) rfl ?_
  exact ⟨rfl, (hU9.set 1 _).set 11 _, ⟨#[46]⟩, _, _, kd_lit _ rfl, ((hX9.set1 _).set11 _).l⟩

set_option maxRecDepth 100000 in
set_option maxHeartbeats 1000000 in
theorem dot_d (w : World) (b fb : Nat) (x : St) (s : ByteArray) (h : Lx0 w b fb s x) (hs : (s.size : Int) ≤ 5000) (hp0 : 0 ≤ x.pos) (hp : x.pos < (s.size : Int)) (hc : bt s x.pos = 46) (hf : isFd (kd x.last.toList) = false) (hin : x.pos + 1 < (s.size : Int)) (hdg : isDigit (bt s (x.pos + 1)) = true) :
    Calls Tryz.prog 54 #[.pointer (some ⟨b, 0, none⟩), .bool false] w (Reads b fb x (numR x (num s x.pos)) w) := by
  obtain ⟨R, hR⟩ : ∃ R, numR x (num s x.pos) = R := ⟨_, rfl⟩
  have HR := Aside0.mk hR
  rw [hR]
  clear hR
  have hat := h.at_
  have hd : decide ((s.size : Int) ≤ x.pos) = false := decide_eq_false (by omega)
  have Z1 := h.l.free 1
  have H1 := h.l.c1
  go_enter Tryz.func54, Tryz.ntmps54
  have c10 := h.l.c10
  have c11 := h.l.c11
  have Z11 := h.l.free 11
  have hd2 : decide (x.pos + 1 < (s.size : Int)) = true := decide_eq_true hin
  go_wp2_with (first
    | (go_at_call 69; (with_reducible refine (eof_c b fb s x.pos _ hat).mono ?_); rintro e w' ⟨rfl, ⟨n1, rfl⟩⟩)
    | (go_at_call 77; (with_reducible refine (peek_c b fb s x.pos _ _ (by first | exact hat | exact hat.drewN _) hp0 (by omega) (by omega) (by omega) (by omega)).mono ?_); rintro e w' ⟨rfl, ⟨n2, rfl⟩⟩)
    | (go_at_call 79; (with_reducible refine (nextDot_c _ _).mono ?_); rintro e w' ⟨rfl, hw'⟩; obtain rfl := hw'.symm)
    | (go_at_call 75; (with_reducible refine (peekOk_c b fb s x.pos _ _ (by first | exact hat | exact hat.drewN _) hp0 (by omega) (by omega) (by omega)).mono ?_); rintro e w' ⟨rfl, ⟨n4, rfl⟩⟩)
    | (go_at_call 80; (with_reducible refine (charIsDigit_c _ _).mono ?_); rintro e w' ⟨rfl, hw'⟩; obtain rfl := hw'.symm)
    | (go_at_call 81; (first | (with_reducible refine (number_c _ b fb x s h hs hp0 hp).mono ?_) | (with_reducible refine (number_c _ b fb x s (h.drewN _) hs hp0 hp).mono ?_)); rintro e w2 hrd; rw [HR.out] at hrd; have hrd' := Reads.mono ((Ups.refl b w).drewN _) hrd; rcases hrd'.split with rfl | ⟨g, rfl⟩))
  · (try simp only [Exit.inBlock, Exit.then]); refine bodyPost_ret (results_none rfl _ _ _) rfl ?_
    exact hrd'
  · exact ⟨rfl, hrd'⟩

set_option maxRecDepth 100000 in
set_option maxHeartbeats 1000000 in
theorem par (w : World) (b fb : Nat) (x : St) (s : ByteArray) (h : Lx0 w b fb s x) (hs : (s.size : Int) ≤ 5000) (hp0 : 0 ≤ x.pos) (hp : x.pos < (s.size : Int)) (hc : bt s x.pos = 64) (hl : isLetter (bt s (x.pos + 1)) = true) :
    Calls Tryz.prog 54 #[.pointer (some ⟨b, 0, none⟩), .bool false] w (Reads b fb x (some (.field, run isPart s (x.pos + 1), x.dot)) w) := by
  have hat := h.at_
  have hd : decide ((s.size : Int) ≤ x.pos) = false := decide_eq_false (by omega)
  have Z1 := h.l.free 1
  have H1 := h.l.c1
  go_enter Tryz.func54, Tryz.ntmps54
  have hin := bt_in (s := s) (i := x.pos + 1) rfl (isLetter_ne hl) (by omega)
  have hd2 : decide (x.pos + 1 < (s.size : Int)) = true := decide_eq_true hin
  have g : (bt s (x.pos + 1) == 64) = false := beqf (by have h1 : 97 ≤ bt s (x.pos + 1) ∧ bt s (x.pos + 1) ≤ 122 ∨ 65 ≤ bt s (x.pos + 1) ∧ bt s (x.pos + 1) ≤ 90 ∨ bt s (x.pos + 1) = 95 := of_decide_eq_true hl; omega)
  obtain ⟨R, hR⟩ : ∃ R, run isPart s (x.pos + 1) = R := ⟨_, rfl⟩
  have HR := Aside0.mk hR
  rw [hR]
  clear hR
  go_wp2_with (first
    | (go_at_call 69; (with_reducible refine (eof_c b fb s x.pos _ hat).mono ?_); rintro e w' ⟨rfl, ⟨n1, rfl⟩⟩)
    | (go_at_call 77; (with_reducible refine (peek_c b fb s x.pos _ _ (by first | exact hat | exact hat.drewN _) hp0 (by omega) (by omega) (by omega) (by omega)).mono ?_); rintro e w' ⟨rfl, ⟨n2, rfl⟩⟩)
    | (go_at_call 73; (with_reducible refine (peekIs0_c b fb s x.pos _ _ _ (by omega) (by first | exact hat | exact hat.drewN _) hp0 (by omega) (by omega) (by omega)).mono ?_); rintro e w' ⟨rfl, ⟨n3, rfl⟩⟩)
    | (go_at_call 75; (with_reducible refine (peekOk_c b fb s x.pos _ _ (by first | exact hat | exact hat.drewN _) hp0 (by omega) (by omega) (by omega)).mono ?_); rintro e w' ⟨rfl, ⟨n4, rfl⟩⟩)
    | (go_at_call 82; (with_reducible refine (charIsIdentStart_c _ _).mono ?_); rintro e w' ⟨rfl, hw'⟩; obtain rfl := hw'.symm))
  go_loopg [5] (((s.size : Int) - x.pos).toNat + 1) (fun kq v5 wr => ∃ i : Int, v5 = .int .i64 i ∧ Aside0 (1 ≤ i ∧ x.pos + i ≤ (s.size : Int) ∧ run isPart s (x.pos + i) = R ∧ ((s.size : Int) - (x.pos + i)).toNat < kq) ∧ Drawn0 w wr)
  case atStart => exact ⟨1, rfl, ⟨Int.le_refl _, by omega, HR.out, by omega⟩, by repeat (first | exact Drawn0.refl _ | apply Drawn0.step)⟩
  case round =>
    obtain ⟨i, rfl, HA, ⟨m1, rfl⟩⟩ := hrel
    have i1 := HA.out.1
    have hi0 : 0 ≤ i := by omega
    have hi1 := HA.out.2.1
    have hwi := iwrap (i + 1) (by omega) (by omega)
    by_cases hlt : x.pos + i < (s.size : Int)
    · have hd1 : decide (x.pos + i < (s.size : Int)) = true := decide_eq_true hlt
      cases hq : isPart (bt s (x.pos + i)) with
      | true =>
        have HQ := Aside0.mk hq
        go_wp2_with (first
          | (go_at_call 75; (with_reducible refine (peekOk_c b fb s x.pos _ _ (by first | exact hat | exact hat.drewN _) hp0 (by omega) (by omega) (by omega)).mono ?_); rintro e w' ⟨rfl, ⟨n4, rfl⟩⟩)
          | (go_at_call 77; (with_reducible refine (peek_c b fb s x.pos _ _ (by first | exact hat | exact hat.drewN _) hp0 (by omega) (by omega) (by omega) (by omega)).mono ?_); rintro e w' ⟨rfl, ⟨n2, rfl⟩⟩)
          | (go_at_call 76; (with_reducible refine (charIsIdentPart_c _ _).mono ?_); rintro e w' ⟨rfl, hw'⟩; obtain rfl := hw'.symm))
        go_roundg (((s.size : Int) - (x.pos + (i + 1))).toNat + 1)
        case measure => have := HA.out.2.2.2; omega
        case rel => exact ⟨i + 1, rfl, ⟨by omega, by omega, by rw [← HA.out.2.2.1, ← Int.add_assoc]; exact (run_step hlt HQ.out).symm, by omega⟩, by repeat (first | exact Drawn0.refl _ | apply Drawn0.step)⟩
      | false =>
        have HQ := Aside0.mk (show R = x.pos + i by rw [← HA.out.2.2.1]; exact run_stop hq)
        have hwp := iwrap (x.pos + i) (by omega) (by omega)
        have hwq := iwrap (x.pos + 1) (by omega) (by omega)
        go_wp2_with (first
          | (go_at_call 75; (with_reducible refine (peekOk_c b fb s x.pos _ _ (by first | exact hat | exact hat.drewN _) hp0 (by omega) (by omega) (by omega)).mono ?_); rintro e w' ⟨rfl, ⟨n4, rfl⟩⟩)
          | (go_at_call 77; (with_reducible refine (peek_c b fb s x.pos _ _ (by first | exact hat | exact hat.drewN _) hp0 (by omega) (by omega) (by omega) (by omega)).mono ?_); rintro e w' ⟨rfl, ⟨n2, rfl⟩⟩)
          | (go_at_call 76; (with_reducible refine (charIsIdentPart_c _ _).mono ?_); rintro e w' ⟨rfl, hw'⟩; obtain rfl := hw'.symm))
        refine wp_any ?_
        intro wz hwz
        have hXz : Lx0 wz b fb s { x with kind := ⟨#[60, 112, 97, 114, 97, 109, 62]⟩ } := by rw [hwz]; exact (h.drewN _).set1 _
        have hUz : Ups b w wz := by rw [hwz]; exact ((Ups.refl b w).drewN _).set 1 _
        clear hwz
        have B0 := hXz.l.c0
        have B9 : wz.cell? ⟨b, 9, none⟩ = some (.int .i64 x.pos) := hXz.l.c9
        have s1 : 0 ≤ x.pos + 1 := by omega
        have s2 : x.pos + 1 ≤ x.pos + i := by omega
        have s3 : 0 ≤ x.pos + i := by omega
        have BB := hXz.isF.buf
        have B5 : wz.cell? ⟨b, 5, none⟩ = some (.string x.txt) := hXz.l.c5
        have Z5 := hXz.l.free 5
        have hAz := (hXz.set5 (s.extract (x.pos + 1).toNat (x.pos + i).toNat)).drew
        have hatZ : At (wz.setCell ⟨b, 5, none⟩ (.string (s.extract (x.pos + 1).toNat (x.pos + i).toNat))).drew b fb s x.pos := hAz.at_
        have hfrZ := hAz.l.free 9
        go_still_tail 23, (by kernel_rfl)
        go_wp2_with (first
          | (go_at_call 72; (with_reducible refine (skipN_c b fb s x.pos i _ hatZ hfrZ hp0 (by omega) hi0 (by omega)).mono ?_); rintro e w9 ⟨rfl, hw9⟩))
        (try simp only [Exit.inBlock, Exit.then]); refine bodyPost_ret (results_none rfl _ _ _) rfl ?_
        rw [HQ.out]
        subst hw9
        exact ⟨rfl, (((hUz.set 5 _).drew).set 9 _), ⟨#[60, 112, 97, 114, 97, 109, 62]⟩, _, _, kd_lit _ rfl, (hAz.set9 _).l⟩
    · have hd1 : decide (x.pos + i < (s.size : Int)) = false := decide_eq_false hlt
      have HQ := Aside0.mk (show R = x.pos + i by rw [← HA.out.2.2.1]; exact run_end (by omega))
      have hwp := iwrap (x.pos + i) (by omega) (by omega)
      have hwq := iwrap (x.pos + 1) (by omega) (by omega)
      go_wp2_with (first
        | (go_at_call 75; (with_reducible refine (peekOk_c b fb s x.pos _ _ (by first | exact hat | exact hat.drewN _) hp0 (by omega) (by omega) (by omega)).mono ?_); rintro e w' ⟨rfl, ⟨n4, rfl⟩⟩))
      refine wp_any ?_
      intro wz hwz
      have hXz : Lx0 wz b fb s { x with kind := ⟨#[60, 112, 97, 114, 97, 109, 62]⟩ } := by rw [hwz]; exact (h.drewN _).set1 _
      have hUz : Ups b w wz := by rw [hwz]; exact ((Ups.refl b w).drewN _).set 1 _
      clear hwz
      have B0 := hXz.l.c0
      have B9 : wz.cell? ⟨b, 9, none⟩ = some (.int .i64 x.pos) := hXz.l.c9
      have s1 : 0 ≤ x.pos + 1 := by omega
      have s2 : x.pos + 1 ≤ x.pos + i := by omega
      have s3 : 0 ≤ x.pos + i := by omega
      have BB := hXz.isF.buf
      have B5 : wz.cell? ⟨b, 5, none⟩ = some (.string x.txt) := hXz.l.c5
      have Z5 := hXz.l.free 5
      have hAz := (hXz.set5 (s.extract (x.pos + 1).toNat (x.pos + i).toNat)).drew
      have hatZ : At (wz.setCell ⟨b, 5, none⟩ (.string (s.extract (x.pos + 1).toNat (x.pos + i).toNat))).drew b fb s x.pos := hAz.at_
      have hfrZ := hAz.l.free 9
      go_still_tail 23, (by kernel_rfl)
      go_wp2_with (first
        | (go_at_call 72; (with_reducible refine (skipN_c b fb s x.pos i _ hatZ hfrZ hp0 (by omega) hi0 (by omega)).mono ?_); rintro e w9 ⟨rfl, hw9⟩))
      (try simp only [Exit.inBlock, Exit.then]); refine bodyPost_ret (results_none rfl _ _ _) rfl ?_
      rw [HQ.out]
      subst hw9
      exact ⟨rfl, (((hUz.set 5 _).drew).set 9 _), ⟨#[60, 112, 97, 114, 97, 109, 62]⟩, _, _, kd_lit _ rfl, (hAz.set9 _).l⟩
/-- What a quoted name leaves. -/
theorem Quotes.splitI {b fb : Nat} {x : St} {r : Option Int} {w w' : World} {e : Ending} (h : Quotes b fb x true r w e w') :
    (∃ q t, r = some q ∧ q ≠ x.pos + 2 ∧ e = .returned (.tuple #[.string t, .bool false]) ∧ Ups b w w' ∧ IsL w' b fb { x with pos := q } ∧ w'.frozen? ⟨b, 5, none⟩ = false ∧ w'.cell? ⟨b, 5, none⟩ = some (.string x.txt)) ∨
      ((r = none ∨ r = some (x.pos + 2)) ∧ (∃ g, e = .panicked [{ v := .iface 86 (.pointer (some ⟨g, 0, none⟩)), recovered := false }]) ∧ Ups2 b fb w w') := by
  cases r with
  | none => exact .inr ⟨.inl rfl, h.1, h.2⟩
  | some q =>
    have h2 : if true = true ∧ q = x.pos + 2 then Fails b fb w e w' else (∃ t, e = .returned (.tuple #[.string t, .bool false])) ∧ Ups b w w' ∧ IsL w' b fb { x with pos := q } := h
    by_cases hq : q = x.pos + 2
    · rw [if_pos ⟨rfl, hq⟩] at h2
      exact .inr ⟨.inr (by rw [hq]), h2.1, h2.2⟩
    · rw [if_neg (fun h3 => hq h3.2)] at h2
      obtain ⟨⟨t, rfl⟩, hU, hL⟩ := h2
      exact .inl ⟨q, t, rfl, hq, rfl, hU, hL, hL.free 5, hL.c5⟩
def idR (x : St) (r : Option Int) : Option (Kd × Int × Bool) := match r with
  | none => none
  | some e => if e = x.pos + 2 then none else some (.field, e, x.dot)

set_option maxRecDepth 100000 in
set_option maxHeartbeats 1000000 in
theorem qid (w : World) (b fb : Nat) (x : St) (s : ByteArray) (h : Lx0 w b fb s x) (hs : (s.size : Int) ≤ 5000) (hp0 : 0 ≤ x.pos) (hp : x.pos < (s.size : Int)) (hT : Txt s) (hc : bt s x.pos = 96) :
    Calls Tryz.prog 54 #[.pointer (some ⟨b, 0, none⟩), .bool false] w (Reads b fb x (idR x (lit s false false x.pos)) w) := by
  have hat := h.at_
  have hM := mark1 s 96 96 rfl (by decide)
  have hp1 : x.pos + 1 ≤ (s.size : Int) := by omega
  have hn1 : ((⟨#[105, 100, 101, 110, 116, 105, 102, 105, 101, 114]⟩ : ByteArray).toList == [105, 100, 101, 110, 116, 105, 102, 105, 101, 114]) = true := by rw [ByteArray.toList_mk]; rfl
  have hn3 : (1 : Int) = 3 → ((⟨#[116, 114, 105, 112, 108, 101, 45, 113, 117, 111, 116, 101, 100, 32]⟩ ++ ⟨#[105, 100, 101, 110, 116, 105, 102, 105, 101, 114]⟩ : ByteArray).toList == [105, 100, 101, 110, 116, 105, 102, 105, 101, 114]) = true := fun hh => by omega
  obtain ⟨R0, hR0⟩ : ∃ R0, lit s false false x.pos = R0 := ⟨_, rfl⟩
  have hml : markLen s (bt s x.pos) x.pos = 1 := by rw [hc]; unfold markLen; rfl
  have HR : Aside0 (quoA s 96 1 false (!true) (x.pos + 1) = R0) := ⟨by rw [← hR0, lit_quoA s false false x.pos hp0, hml, hc]; rfl⟩
  rw [hR0]
  obtain ⟨RR, hRR⟩ : ∃ RR, idR x R0 = RR := ⟨_, rfl⟩
  have HRR := Aside0.mk hRR
  rw [hRR]
  clear hRR hR0 hml
  have hd : decide ((s.size : Int) ≤ x.pos) = false := decide_eq_false (by omega)
  have Z1 := h.l.free 1
  have H1 := h.l.c1
  go_enter Tryz.func54, Tryz.ntmps54
  go_wp2_with (first
    | (go_at_call 69; (with_reducible refine (eof_c b fb s x.pos _ hat).mono ?_); rintro e w' ⟨rfl, ⟨n1, rfl⟩⟩)
    | (go_at_call 77; (with_reducible refine (peek_c b fb s x.pos _ _ (by first | exact hat | exact hat.drewN _) hp0 (by omega) (by omega) (by omega) (by omega)).mono ?_); rintro e w' ⟨rfl, ⟨n2, rfl⟩⟩)
    | (go_at_call 83; (with_reducible refine (quoted_false _ b fb _ s ⟨#[96]⟩ ⟨#[105, 100, 101, 110, 116, 105, 102, 105, 101, 114]⟩ 96 1 true true ((h.drewN _).set1 ⟨#[60, 105, 100, 101, 110, 116, 62]⟩) hT hM hp0 hp1 (by decide) hn1 hn3 (fun _ => rfl)).mono ?_); rintro e w2 hq; rw [HR.out] at hq; rcases hq.splitI with ⟨r, t, hr, hne, rfl, hU2, hL2, hz5, hk5⟩ | ⟨hbad, ⟨g, rfl⟩, hU2⟩))
  · have hrr : RR = some (.field, r, x.dot) := by rw [← HRR.out, hr]; unfold idR; simp only []; rw [if_neg hne]
    subst hrr
    (try simp only [Exit.inBlock, Exit.then]); refine bodyPost_ret (results_none rfl _ _ _) rfl ?_
    exact ⟨rfl, ((((Ups.refl b w).drewN _).set 1 _).trans hU2).set 5 _, ⟨#[60, 105, 100, 101, 110, 116, 62]⟩, _, _, kd_lit _ rfl, hL2.set5 _⟩
  · have hrr : RR = none := by
      rw [← HRR.out]
      rcases hbad with h3 | h3
      · rw [h3]; rfl
      · rw [h3]; unfold idR; simp
    subst hrr
    exact ⟨rfl, ⟨g, rfl⟩, ((((Ups.refl b w).drewN _).set 1 _).two fb).trans hU2⟩
end Go.Proofs.YtjepdlmcombmcaaGreatDoor.Lx
