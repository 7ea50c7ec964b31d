/- Signs: what consumeToken leaves where a sign stands. Conditions: the lexer's state; the sign's bytes. -/
import Derived.Test.YtjepdlmcombmcaaGreatDoorNp
namespace Go.Proofs.YtjepdlmcombmcaaGreatDoor.Lx
open Go.RowKit Go.Proofs.YtjepdlmcombmcaaGreatDoorW.PrintWords

/-- What is told of a token that begins at the lexer's place. -/
def tokR (x : St) (r : Option (Kd × Int)) : Option (Kd × Int × Bool) := match r with
  | none => none
  | some (k, e) => some (k, e, if k = .dot then isFd (kd x.last.toList) else x.dot)
theorem pfx3_none {s : ByteArray} {p : Int} (hm : isMark (bt s p) = false) (hr : isR (bt s p) = false) (hb : isB (bt s p) = false) : pfx s 3 p false false = none := by
  simp only [pfx]
  rw [hm, hr, hb]
  rfl
theorem tok_sign {s : ByteArray} {p : Int} {aft : Bool} (h : p < (s.size : Int)) (h96 : (bt s p == 96) = false) (hd : isDigit (bt s p) = false) (h46 : (bt s p == 46 && !aft && isDigit (bt s (p + 1))) = false) (h64 : (bt s p == 64 && isLetter (bt s (p + 1))) = false)
    (hm : isMark (bt s p) = false) (hr : isR (bt s p) = false) (hb : isB (bt s p) = false) (hl : isLetter (bt s p) = false) :
    tok s aft p = if isSign2 (bt s p) (bt s (p + 1)) then some (.other, p + 2) else if isSign1 (bt s p) then some (sgn (bt s p), p + 1) else none := by
  unfold tok
  rw [if_neg (by omega), h96, hd, h46, h64, pfx3_none hm hr hb, hl]
  rfl
theorem conv61 (W : World) (c : Int) : (convert 50 61 (.slice (some ⟨W.heap.size, 0, none⟩) 1 1)).run Tryz.prog (W.alloc (.cells #[.int .u8 c] 5)) = .ok (.string (strOfNums [c])) (W.alloc (.cells #[.int .u8 c] 5)) :=
  run_convert_bytes_arg _ 50 5 Tryz.underlying50 Tryz.underlying5 W.heap.size 0 1 1 [c] rfl (fun i hi => by
    have : i = 0 := by omega
    subst this
    exact (blk_cell (blk_new W _) 0).trans rfl) 61 Tryz.underlying61
theorem Lx0.alloc {w : World} {b fb : Nat} {s : ByteArray} {x : St} (h : Lx0 w b fb s x) (o : Obj) : Lx0 (w.alloc o) b fb s x := h.below (below_alloc (Below.refl _ _) o)

set_option maxRecDepth 100000 in
set_option maxHeartbeats 4000000 in
theorem sgA (w : World) (b fb : Nat) (x : St) (s : ByteArray) (h : Lx0 w b fb s x) (hs : (s.size : Int) ≤ 5000) (hp0 : 0 ≤ x.pos) (hp : x.pos < (s.size : Int)) (c : Int) (k : Kd) (hc : bt s x.pos = c) (hk : c = 59 ∧ k = .semi ∨ (c = 41 ∨ c = 93) ∧ k = .field ∨ (c = 40 ∨ c = 123 ∨ c = 125 ∨ c = 44 ∨ c = 91 ∨ c = 126 ∨ c = 42 ∨ c = 47 ∨ c = 38 ∨ c = 94 ∨ c = 37 ∨ c = 58 ∨ c = 63 ∨ c = 92 ∨ c = 36) ∧ k = .other) :
    Calls Tryz.prog 54 #[.pointer (some ⟨b, 0, none⟩), .bool false] w (Reads b fb x (some (k, x.pos + 1, x.dot)) w) := by
  have hat := h.at_
  have hd : decide ((s.size : Int) ≤ x.pos) = false := decide_eq_false (by omega)
  have Z1 := h.l.free 1
  have H1 := h.l.c1
  have HV : Aside0 (∀ w9, Lx0 w9 b fb s { x with pos := x.pos + 1 } → Ups b w w9 → (convert 50 61 (.slice (some ⟨w9.heap.size, 0, none⟩) 1 1)).run Tryz.prog (w9.alloc (.cells #[.int .u8 c] 5)) = .ok (.string (strOfNums [c])) (w9.alloc (.cells #[.int .u8 c] 5)) ∧ Lx0 (w9.alloc (.cells #[.int .u8 c] 5)) b fb s { x with pos := x.pos + 1 } ∧ Ups b w (w9.alloc (.cells #[.int .u8 c] 5))) :=
    ⟨fun w9 hX9 hU9 => ⟨conv61 w9 c, hX9.alloc _, hU9.alloc _⟩⟩
  rcases hk with ⟨rfl, rfl⟩ | ⟨rfl | rfl, rfl⟩ | ⟨rfl | rfl | rfl | rfl | rfl | rfl | rfl | rfl | rfl | rfl | rfl | rfl | rfl | rfl | rfl, rfl⟩
  all_goals
    go_enter Tryz.func54, Tryz.ntmps54
    go_wp2_with (first
      | (go_at_call 69; (with_reducible refine (eof_c b fb s x.pos _ hat).mono ?_); rintro e w' ⟨rfl, ⟨n1, rfl⟩⟩)
      | (go_at_call 77; (with_reducible refine (peek_c b fb s x.pos _ _ (by first | exact hat | exact hat.drewN _) hp0 (by omega) (by omega) (by omega) (by omega)).mono ?_); rintro e w' ⟨rfl, ⟨n2, rfl⟩⟩)
      | (go_at_call 78; (with_reducible refine (skip_c b fb s x.pos _ (by first | exact hat | exact hat.drewN _) (by first | exact h.l.free 9 | exact (h.l.drewN _).free 9) hp0 (by omega) hp).mono ?_); rintro e w9 ⟨rfl, ⟨n6, hw9⟩⟩; have hX9 : Lx0 w9 b fb s { x with pos := x.pos + 1 } := (by rw [hw9]; first | exact (h.drewN _).set9 _ | exact ((h.drewN _).drewN _).set9 _); have hU9 : Ups b w w9 := (by rw [hw9]; first | exact ((Ups.refl b w).drewN _).set 9 _ | exact (((Ups.refl b w).drewN _).drewN _).set 9 _); have K1 := hX9.l.c1; have Y1 := hX9.l.free 1; have K11 := hX9.l.c11; have Y11 := hX9.l.free 11; clear hw9; obtain ⟨hcv, hA, hUA⟩ := HV.out w9 hX9 hU9; have A1 := hA.l.c1; have B1 := hA.l.free 1))
    (try simp only [Exit.inBlock, Exit.then]); refine bodyPost_ret (results_none rfl _ _ _) rfl ?_
    exact ⟨rfl, hUA.set 1 _, _, _, _, kd_lit _ rfl, (hA.set1 _).l⟩

set_option maxRecDepth 100000 in
set_option maxHeartbeats 4000000 in
theorem sgB (w : World) (b fb : Nat) (x : St) (s : ByteArray) (h : Lx0 w b fb s x) (hs : (s.size : Int) ≤ 5000) (hp0 : 0 ≤ x.pos) (hp : x.pos < (s.size : Int)) (c d : Int) (hc : bt s x.pos = c) (hd1 : bt s (x.pos + 1) = d) (hk : c = 60 ∧ (d = 60 ∨ d = 61 ∨ d = 62) ∨ c = 62 ∧ (d = 62 ∨ d = 61) ∨ c = 45 ∧ d = 62 ∨ c = 61 ∧ d = 62 ∨ c = 124 ∧ (d = 62 ∨ d = 124) ∨ c = 33 ∧ d = 61 ∨ c = 64 ∧ d = 64) :
    Calls Tryz.prog 54 #[.pointer (some ⟨b, 0, none⟩), .bool false] w (Reads b fb x (some (.other, x.pos + 2, x.dot)) w) := by
  have hat := h.at_
  have hd : decide ((s.size : Int) ≤ x.pos) = false := decide_eq_false (by omega)
  have Z1 := h.l.free 1
  have H1 := h.l.c1
  obtain ⟨t60, g60, G60⟩ : ∃ t : Bool, (bt s (x.pos + 1) == 60) = t ∧ t = (d == 60) := ⟨_, by rw [hd1], rfl⟩
  obtain ⟨t61, g61, G61⟩ : ∃ t : Bool, (bt s (x.pos + 1) == 61) = t ∧ t = (d == 61) := ⟨_, by rw [hd1], rfl⟩
  obtain ⟨t62, g62, G62⟩ : ∃ t : Bool, (bt s (x.pos + 1) == 62) = t ∧ t = (d == 62) := ⟨_, by rw [hd1], rfl⟩
  obtain ⟨t64, g64, G64⟩ : ∃ t : Bool, (bt s (x.pos + 1) == 64) = t ∧ t = (d == 64) := ⟨_, by rw [hd1], rfl⟩
  obtain ⟨t124, g124, G124⟩ : ∃ t : Bool, (bt s (x.pos + 1) == 124) = t ∧ t = (d == 124) := ⟨_, by rw [hd1], rfl⟩
  rcases hk with ⟨rfl, rfl | rfl | rfl⟩ | ⟨rfl, rfl | rfl⟩ | ⟨rfl, rfl⟩ | ⟨rfl, rfl⟩ | ⟨rfl, rfl | rfl⟩ | ⟨rfl, rfl⟩ | ⟨rfl, rfl⟩
  all_goals
    go_enter Tryz.func54, Tryz.ntmps54
    subst G60 G61 G62 G64 G124
    go_wp2_with (first
      | (go_at_call 69; (with_reducible refine (eof_c b fb s x.pos _ hat).mono ?_); rintro e w' ⟨rfl, ⟨n1, rfl⟩⟩)
      | (go_at_call 77; (with_reducible refine (peek_c b fb s x.pos _ _ (by first | exact hat | exact hat.drewN _) hp0 (by omega) (by omega) (by omega) (by omega)).mono ?_); rintro e w' ⟨rfl, ⟨n2, rfl⟩⟩)
      | (go_at_call 73; (with_reducible refine (peekIs0_c b fb s x.pos _ _ _ (by omega) (by first | exact hat | exact hat.drewN _) hp0 (by omega) (by omega) (by omega)).mono ?_); rintro e w' ⟨rfl, ⟨n3, rfl⟩⟩)
      | (go_at_call 72; (with_reducible refine (skipN_c b fb s x.pos 2 _ (by first | exact hat | exact hat.drewN _) (by first | exact h.l.free 9 | exact (h.l.drewN _).free 9) hp0 (by omega) (by omega) (by omega)).mono ?_); rintro e w9 ⟨rfl, hw9⟩; have hX9 : Lx0 w9 b fb s { x with pos := x.pos + 2 } := (by rw [hw9]; first | exact (h.drewN _).set9 _ | exact ((h.drewN _).drewN _).set9 _); have hU9 : Ups b w w9 := (by rw [hw9]; first | exact ((Ups.refl b w).drewN _).set 9 _ | exact (((Ups.refl b w).drewN _).drewN _).set 9 _); have K1 := hX9.l.c1; have Y1 := hX9.l.free 1; have K11 := hX9.l.c11; have Y11 := hX9.l.free 11; clear hw9))
    (try simp only [Exit.inBlock, Exit.then]); refine bodyPost_ret (results_none rfl _ _ _) rfl ?_
    exact ⟨rfl, hU9.set 1 _, _, _, _, kd_lit _ rfl, (hX9.set1 _).l⟩

set_option maxRecDepth 100000 in
set_option maxHeartbeats 4000000 in
theorem sgN (w : World) (b fb : Nat) (x : St) (s : ByteArray) (h : Lx0 w b fb s x) (hs : (s.size : Int) ≤ 5000) (hp0 : 0 ≤ x.pos) (hp : x.pos < (s.size : Int)) (c : Int) (hc : bt s x.pos = c) (hk : c = 60 ∧ (bt s (x.pos + 1) == 60) = false ∧ (bt s (x.pos + 1) == 61) = false ∧ (bt s (x.pos + 1) == 62) = false ∨ c = 62 ∧ (bt s (x.pos + 1) == 62) = false ∧ (bt s (x.pos + 1) == 61) = false ∨ c = 43 ∧ (bt s (x.pos + 1) == 61) = false ∨ c = 45 ∧ (bt s (x.pos + 1) == 61) = false ∧ (bt s (x.pos + 1) == 62) = false ∨ c = 61 ∧ (bt s (x.pos + 1) == 62) = false ∨ c = 124 ∧ (bt s (x.pos + 1) == 62) = false ∧ (bt s (x.pos + 1) == 124) = false) :
    Calls Tryz.prog 54 #[.pointer (some ⟨b, 0, none⟩), .bool false] w (Reads b fb x (some (.other, x.pos + 1, x.dot)) w) := by
  have hat := h.at_
  have hd : decide ((s.size : Int) ≤ x.pos) = false := decide_eq_false (by omega)
  have Z1 := h.l.free 1
  have H1 := h.l.c1
  rcases hk with ⟨rfl, g60, g61, g62⟩ | ⟨rfl, g62, g61⟩ | ⟨rfl, g61⟩ | ⟨rfl, g61, g62⟩ | ⟨rfl, g62⟩ | ⟨rfl, g62, g124⟩
  all_goals
    go_enter Tryz.func54, Tryz.ntmps54
    go_wp2_with (first
      | (go_at_call 69; (with_reducible refine (eof_c b fb s x.pos _ hat).mono ?_); rintro e w' ⟨rfl, ⟨n1, rfl⟩⟩)
      | (go_at_call 77; (with_reducible refine (peek_c b fb s x.pos _ _ (by first | exact hat | exact hat.drewN _) hp0 (by omega) (by omega) (by omega) (by omega)).mono ?_); rintro e w' ⟨rfl, ⟨n2, rfl⟩⟩)
      | (go_at_call 73; (with_reducible refine (peekIs0_c b fb s x.pos _ _ _ (by omega) (by first | exact hat | exact hat.drewN _) hp0 (by omega) (by omega) (by omega)).mono ?_); rintro e w' ⟨rfl, ⟨n3, rfl⟩⟩)
      | (go_at_call 78; (with_reducible refine (skip_c b fb s x.pos _ (by first | exact hat | exact hat.drewN _) (by first | exact h.l.free 9 | exact (h.l.drewN _).free 9) hp0 (by omega) hp).mono ?_); rintro e w9 ⟨rfl, ⟨n6, hw9⟩⟩; have hX9 : Lx0 w9 b fb s { x with pos := x.pos + 1 } := (by rw [hw9]; first | exact (h.drewN _).set9 _ | exact ((h.drewN _).drewN _).set9 _); have hU9 : Ups b w w9 := (by rw [hw9]; first | exact ((Ups.refl b w).drewN _).set 9 _ | exact (((Ups.refl b w).drewN _).drewN _).set 9 _); have K1 := hX9.l.c1; have Y1 := hX9.l.free 1; have K11 := hX9.l.c11; have Y11 := hX9.l.free 11; clear hw9))
    (try simp only [Exit.inBlock, Exit.then]); refine bodyPost_ret (results_none rfl _ _ _) rfl ?_
    exact ⟨rfl, hU9.set 1 _, _, _, _, kd_lit _ rfl, (hX9.set1 _).l⟩

set_option maxRecDepth 100000 in
set_option maxHeartbeats 4000000 in
theorem sg64_n (w : World) (b fb : Nat) (x : St) (s : ByteArray) (h : Lx0 w b fb s x) (hs : (s.size : Int) ≤ 5000) (hp0 : 0 ≤ x.pos) (hp : x.pos < (s.size : Int)) (hc : bt s x.pos = 64) (hd1 : bt s (x.pos + 1) ≠ 64) (hk : x.pos + 1 < (s.size : Int) ∧ isLetter (bt s (x.pos + 1)) = false ∨ (s.size : Int) ≤ x.pos + 1) :
    Calls Tryz.prog 54 #[.pointer (some ⟨b, 0, none⟩), .bool false] w (Reads b fb x (some (.other, x.pos + 1, x.dot)) w) := by
  have hat := h.at_
  have hd : decide ((s.size : Int) ≤ x.pos) = false := decide_eq_false (by omega)
  have Z1 := h.l.free 1
  have H1 := h.l.c1
  have g : (bt s (x.pos + 1) == 64) = false := beqf hd1
  rcases hk with ⟨hin, hl⟩ | hin
  all_goals
    go_enter Tryz.func54, Tryz.ntmps54
    first | (have hd2 : decide (x.pos + 1 < (s.size : Int)) = true := decide_eq_true hin) | (have hd2 : decide (x.pos + 1 < (s.size : Int)) = false := decide_eq_false (by omega))
    go_wp2_with (first
      | (go_at_call 69; (with_reducible refine (eof_c b fb s x.pos _ hat).mono ?_); rintro e w' ⟨rfl, ⟨n1, rfl⟩⟩)
      | (go_at_call 77; (with_reducible refine (peek_c b fb s x.pos _ _ (by first | exact hat | exact hat.drewN _) hp0 (by omega) (by omega) (by omega) (by omega)).mono ?_); rintro e w' ⟨rfl, ⟨n2, rfl⟩⟩)
      | (go_at_call 73; (with_reducible refine (peekIs0_c b fb s x.pos _ _ _ (by omega) (by first | exact hat | exact hat.drewN _) hp0 (by omega) (by omega) (by omega)).mono ?_); rintro e w' ⟨rfl, ⟨n3, rfl⟩⟩)
      | (go_at_call 75; (with_reducible refine (peekOk_c b fb s x.pos _ _ (by first | exact hat | exact hat.drewN _) hp0 (by omega) (by omega) (by omega)).mono ?_); rintro e w' ⟨rfl, ⟨n4, rfl⟩⟩)
      | (go_at_call 82; (with_reducible refine (charIsIdentStart_c _ _).mono ?_); rintro e w' ⟨rfl, hw'⟩; obtain rfl := hw'.symm)
      | (go_at_call 78; (with_reducible refine (skip_c b fb s x.pos _ (by first | exact hat | exact hat.drewN _) (by first | exact h.l.free 9 | exact (h.l.drewN _).free 9) hp0 (by omega) hp).mono ?_); rintro e w9 ⟨rfl, ⟨n6, hw9⟩⟩; have hX9 : Lx0 w9 b fb s { x with pos := x.pos + 1 } := (by rw [hw9]; first | exact (h.drewN _).set9 _ | exact ((h.drewN _).drewN _).set9 _); have hU9 : Ups b w w9 := (by rw [hw9]; first | exact ((Ups.refl b w).drewN _).set 9 _ | exact (((Ups.refl b w).drewN _).drewN _).set 9 _); have K1 := hX9.l.c1; have Y1 := hX9.l.free 1; have K11 := hX9.l.c11; have Y11 := hX9.l.free 11; clear hw9))
    (try simp only [Exit.inBlock, Exit.then]); refine bodyPost_ret (results_none rfl _ _ _) rfl ?_
    exact ⟨rfl, hU9.set 1 _, _, _, _, kd_lit _ rfl, (hX9.set1 _).l⟩
end Go.Proofs.YtjepdlmcombmcaaGreatDoor.Lx
