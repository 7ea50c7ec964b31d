/- The loop of a quoted content: its body, what holds at its head; the escapes of one byte. Conditions: the round begins at a backslash. -/
import Derived.Test.YtjepdlmcombmcaaGreatDoorNp
namespace Go.Proofs.YtjepdlmcombmcaaGreatDoor.Lx
open Go.RowKit Go.Proofs.YtjepdlmcombmcaaGreatDoorW.PrintWords
section
variable {s : ByteArray} {i : Int} {bytes : Bool}
theorem esc_simple (h : i + 1 < (s.size : Int)) (hs : isSimpleEsc (bt s (i + 1)) = true) : esc s false bytes i = some (i + 2) := by
  unfold esc
  rw [if_neg (by omega), if_neg (by decide), if_pos hs]
theorem esc_x (h : i + 1 < (s.size : Int)) (hx : bt s (i + 1) = 120 ∨ bt s (i + 1) = 88) : esc s false bytes i = if hexes s 2 (i + 2) then some (i + 4) else none := by
  unfold esc
  rw [if_neg (by omega), if_neg (by decide)]
  rcases hx with hx | hx <;> rw [hx] <;> rfl
theorem esc_u (h : i + 1 < (s.size : Int)) (hx : bt s (i + 1) = 117) : esc s false false i = if hexes s 4 (i + 2) && isRune (hexNum s 4 (i + 2) 0) then some (i + 6) else none := by
  unfold esc
  rw [if_neg (by omega), if_neg (by decide), hx]
  rfl
theorem esc_U (h : i + 1 < (s.size : Int)) (hx : bt s (i + 1) = 85) : esc s false false i = if hexes s 8 (i + 2) && isRune (hexNum s 8 (i + 2) 0) then some (i + 10) else none := by
  unfold esc
  rw [if_neg (by omega), if_neg (by decide), hx]
  rfl
theorem esc_uB (hx : bt s (i + 1) = 117 ∨ bt s (i + 1) = 85) : esc s false true i = none := by
  unfold esc
  split
  · rfl
  · rw [if_neg (by decide)]
    rcases hx with hx | hx <;> rw [hx] <;> rfl
theorem esc_o (h : i + 1 < (s.size : Int)) (hx : bt s (i + 1) = 48 ∨ bt s (i + 1) = 49 ∨ bt s (i + 1) = 50 ∨ bt s (i + 1) = 51) : esc s false bytes i = if isOct (bt s (i + 2)) && isOct (bt s (i + 3)) then some (i + 4) else none := by
  unfold esc
  rw [if_neg (by omega), if_neg (by decide)]
  rcases hx with hx | hx | hx | hx <;> rw [hx] <;> rfl
theorem esc_d (hs : isSimpleEsc (bt s (i + 1)) = false) (h1 : bt s (i + 1) ≠ 120 ∧ bt s (i + 1) ≠ 88 ∧ bt s (i + 1) ≠ 117 ∧ bt s (i + 1) ≠ 85) (h2 : bt s (i + 1) ≠ 48 ∧ bt s (i + 1) ≠ 49 ∧ bt s (i + 1) ≠ 50 ∧ bt s (i + 1) ≠ 51) : esc s false bytes i = none := by
  unfold esc
  split
  · rfl
  · rw [if_neg (by decide), if_neg (by rw [hs]; decide), if_neg (by rw [beqf h1.1, beqf h1.2.1]; decide), if_neg (by rw [beqf h1.2.2.1]; simp), if_neg (by rw [beqf h1.2.2.2]; simp), if_neg (by rw [decide_eq_true_iff]; omega)]
theorem simple_cases {c : Int} (h : isSimpleEsc c = true) : c = 97 ∨ c = 98 ∨ c = 102 ∨ c = 110 ∨ c = 114 ∨ c = 116 ∨ c = 118 ∨ c = 92 ∨ c = 63 ∨ c = 34 ∨ c = 39 ∨ c = 96 := by
  unfold isSimpleEsc at h
  simp only [Bool.or_eq_true, beq_iff_eq] at h
  omega
theorem simple_not {c : Int} (h : isSimpleEsc c = false) : c ≠ 97 ∧ c ≠ 98 ∧ c ≠ 102 ∧ c ≠ 110 ∧ c ≠ 114 ∧ c ≠ 116 ∧ c ≠ 118 ∧ c ≠ 92 ∧ c ≠ 63 ∧ c ≠ 34 ∧ c ≠ 39 ∧ c ≠ 96 := by
  unfold isSimpleEsc at h
  simp only [Bool.or_eq_false_iff, beq_eq_false_iff_ne] at h
  omega
end
/-- The first loop of a code: its body. -/
def firstLoop : Code → Option Code
  | .seq a b => match firstLoop a with
    | some c => some c
    | none => firstLoop b
  | .cond _ a b => match firstLoop a with
    | some c => some c
    | none => firstLoop b
  | .block _ a => firstLoop a
  | .loop c => some c
  | _ => none
def loopOf (f : Func) : Code := match f.body with
  | some c => (match firstLoop c with
    | some d => d
    | none => .skip)
  | none => .skip
/-- What holds at the loop's head when at most k' rounds are to come. -/
def I83 (w : World) (b : Nat) (x : St) (s q nm' : ByteArray) (c L : Int) (uni : Bool) (u34 u35 : Value) (R : Option Int) (k' : Nat) (a' : Act) (w' : World) : Prop :=
  ∃ (i : Int) (A : Option Addr) (C n : Nat) (xs : List Int), (Aside0 (n = xs.length ∧ L ≤ i ∧ x.pos + i ≤ (s.size : Int) ∧ quoA s c L false (!uni) (x.pos + i) = R ∧ ((s.size : Int) - (x.pos + i)).toNat < k' ∧ (xs = [] ↔ i = L) ∧ (n : Int) ≤ 4 * i) ∧ Aside0 (Below w.heap.size w w') ∧ Aside0 (OwnN w' w.heap.size (.slice A n C) xs)) ∧ ∃ a0 a1 a2 a3 a4 a5 a6 a7 a8 a9 a10 a11 a12 a13 a14 a15 a16 a17 a18 a19 a20 a21 a22 a23 : U20, a' = frame83 b q false uni nm' L u34 u35 i (.slice A n C) a0 a1 a2 a3 a4 a5 a6 a7 a8 a9 a10 a11 a12 a13 a14 a15 a16 a17 a18 a19 a20 a21 a22 a23
/-- A fault's way out of the loop. -/
def Out83 (b fb : Nat) (w : World) (R : Option Int) (Q : Exit → Act → World → Prop) : Prop :=
  ∀ (g : Nat) (t : Array Value) (w' : World), R = none → Ups2 b fb w w' → Q (.panic [{ v := .iface 86 (.pointer (some ⟨g, 0, none⟩)), recovered := false }]) ⟨t, []⟩ w'

set_option maxRecDepth 100000 in
set_option maxHeartbeats 8000000 in
theorem rd_simple (w : World) (b fb : Nat) (x : St) (s q nm' : ByteArray) (c L : Int) (uni : Bool) (u34 u35 : Value) (R : Option Int) (h : Lx0 w b fb s x) (hT : Txt s) (hM : Mark s q c L) (hp0 : 0 ≤ x.pos)
    (gk : Nat) (wr : World) (i : Int) (A : Option Addr) (C n : Nat) (xs : List Int) (HNX : Aside0 (n = xs.length))
    (HA : Aside0 (L ≤ i ∧ x.pos + i ≤ (s.size : Int) ∧ quoA s c L false (!uni) (x.pos + i) = R ∧ ((s.size : Int) - (x.pos + i)).toNat < gk ∧ (xs = [] ↔ i = L) ∧ (n : Int) ≤ 4 * i))
    (HB : Aside0 (Below w.heap.size w wr)) (HO : Aside0 (OwnN wr w.heap.size (.slice A n C) xs)) (a0 a1 a2 a3 a4 a5 a6 a7 a8 a9 a10 a11 a12 a13 a14 a15 a16 a17 a18 a19 a20 a21 a22 a23 : U20)
    (hq : x.pos + i < (s.size : Int)) (HF : Aside0 (isQ s c L (x.pos + i) = false)) (H92 : Aside0 (bt s (x.pos + i) = 92)) (hS : Aside0 (isSimpleEsc (bt s (x.pos + (i + 1))) = true))
    (J : Nat → Act → World → Prop) (K : Act → World → Prop) (Q : Exit → Act → World → Prop) (hJ : ∀ k a' w', I83 w b x s q nm' c L uni u34 u35 R k a' w' → J k a' w') (hK : ∀ a' w', Handed J gk a' w' → K a' w') :
    Code.wp Tryz.prog (loopOf Tryz.f83) (Exit.then K Q) (frame83 b q false uni nm' L u34 u35 i (.slice A n C) a0 a1 a2 a3 a4 a5 a6 a7 a8 a9 a10 a11 a12 a13 a14 a15 a16 a17 a18 a19 a20 a21 a22 a23) wr := by
  have hs : (s.size : Int) ≤ 5000 := by have := hT.size; omega
  have hL0 := hM.one
  have hqs := hM.sz
  unfold frame83
  conv => arg 2; whnf
  unfold I83 at hJ
  have hB := HB.out
  have hX := h.below hB
  have hat := hX.at_
  have C9 : wr.cell? ⟨b, 9, none⟩ = some (.int .i64 x.pos) := hX.l.c9
  have i0 := HA.out.1
  have i1 := HA.out.2.1
  have hi0 : 0 ≤ i := by omega
  have hsz := hB.size
  have hlen : xs.length + 4 ≤ 100000000 := by have := HA.out.2.2.2.2.2; have := HNX.out; omega
  have hqq := HA.out.2.2.1
  have HQ := Aside0.mk hqq
  clear hqq
  have hd1 : decide (x.pos + i < (s.size : Int)) = true := decide_eq_true hq
  have hwL := iwrap (i + L) (by omega) (by omega)
  have hw1 := iwrap (i + 1) (by omega) (by omega)
  have hcut := hM.cut (x.pos + i) (by omega) (by omega)
  rw [show x.pos + i + L = x.pos + (i + L) by omega, HF.out] at hcut
  have h92 : (bt s (x.pos + i) == 92) = true := by rw [H92.out]; rfl
  have hbr : x.pos + i + 9 < (s.size : Int) := by
    by_cases hh : x.pos + i + 9 < (s.size : Int)
    · exact hh
    · exact absurd H92.out (hT.brit (x.pos + i) (by omega) (by omega))
  have hd2 : decide (x.pos + (i + 1) < (s.size : Int)) = true := decide_eq_true (by omega)
  have hw2 := iwrap (i + 1 + 1) (by omega) (by omega)
  have E01 : Aside0 (x.pos + i + 1 = x.pos + (i + 1)) := ⟨by omega⟩
  have hin1 : x.pos + i + 1 < (s.size : Int) := by omega
  have HES := Aside0.mk (esc_simple (bytes := !uni) hin1 (by rw [E01.out]; exact hS.out))
  have hcs := simple_cases hS.out
  rcases hcs with f | f | f | f | f | f | f | f | f | f | f | f
  all_goals
    go_wp2_with (first
      | (go_at_call 75; (first | (with_reducible refine (peekOk_c b fb s x.pos _ _ hat hp0 (by omega) (by omega) (by omega)).mono ?_) | (with_reducible refine (peekOk_c b fb s x.pos _ _ (hat.drewN _) hp0 (by omega) (by omega) (by omega)).mono ?_)); rintro e w' ⟨rfl, ⟨n4, rfl⟩⟩)
      | (go_at_call 88; (first | (with_reducible refine (slice_c b fb s x.pos _ _ _ hat hp0 (by omega) (by omega) (by omega) (by omega) (by omega)).mono ?_) | (with_reducible refine (slice_c b fb s x.pos _ _ _ (hat.drewN _) hp0 (by omega) (by omega) (by omega) (by omega) (by omega)).mono ?_)); rintro e w' ⟨rfl, ⟨n6, rfl⟩⟩)
      | (go_at_call 77; (first | (with_reducible refine (peek_c b fb s x.pos _ _ hat hp0 (by omega) (by omega) (by omega) (by omega)).mono ?_) | (with_reducible refine (peek_c b fb s x.pos _ _ (hat.drewN _) hp0 (by omega) (by omega) (by omega) (by omega)).mono ?_)); rintro e w' ⟨rfl, ⟨n5, rfl⟩⟩)
      | (at_builtin; refine append_one (w0 := w) w.heap.size rfl (.tmp 138) (.tmp 139) rfl _ xs _ rfl rfl (HO.out.drewN _) (below_drewN hB _) hsz hlen ?_; intro v1 w1 HO1 HB1; obtain ⟨A1, C1, rfl⟩ := HO1.shape' HNX.out (m := 1) rfl)
      | (at_builtin; refine append_one (w0 := w) w.heap.size rfl (.tmp 143) (.tmp 144) rfl _ xs _ rfl rfl (HO.out.drewN _) (below_drewN hB _) hsz hlen ?_; intro v1 w1 HO1 HB1; obtain ⟨A1, C1, rfl⟩ := HO1.shape' HNX.out (m := 1) rfl)
      | (at_builtin; refine append_one (w0 := w) w.heap.size rfl (.tmp 148) (.tmp 149) rfl _ xs _ rfl rfl (HO.out.drewN _) (below_drewN hB _) hsz hlen ?_; intro v1 w1 HO1 HB1; obtain ⟨A1, C1, rfl⟩ := HO1.shape' HNX.out (m := 1) rfl)
      | (at_builtin; refine append_one (w0 := w) w.heap.size rfl (.tmp 153) (.tmp 154) rfl _ xs _ rfl rfl (HO.out.drewN _) (below_drewN hB _) hsz hlen ?_; intro v1 w1 HO1 HB1; obtain ⟨A1, C1, rfl⟩ := HO1.shape' HNX.out (m := 1) rfl)
      | (at_builtin; refine append_one (w0 := w) w.heap.size rfl (.tmp 158) (.tmp 159) rfl _ xs _ rfl rfl (HO.out.drewN _) (below_drewN hB _) hsz hlen ?_; intro v1 w1 HO1 HB1; obtain ⟨A1, C1, rfl⟩ := HO1.shape' HNX.out (m := 1) rfl)
      | (at_builtin; refine append_one (w0 := w) w.heap.size rfl (.tmp 163) (.tmp 164) rfl _ xs _ rfl rfl (HO.out.drewN _) (below_drewN hB _) hsz hlen ?_; intro v1 w1 HO1 HB1; obtain ⟨A1, C1, rfl⟩ := HO1.shape' HNX.out (m := 1) rfl)
      | (at_builtin; refine append_one (w0 := w) w.heap.size rfl (.tmp 168) (.tmp 169) rfl _ xs _ rfl rfl (HO.out.drewN _) (below_drewN hB _) hsz hlen ?_; intro v1 w1 HO1 HB1; obtain ⟨A1, C1, rfl⟩ := HO1.shape' HNX.out (m := 1) rfl)
      | (at_builtin; refine append_one (w0 := w) w.heap.size rfl (.tmp 177) (.tmp 179) rfl _ xs _ rfl rfl (HO.out.drewN _) (below_drewN hB _) hsz hlen ?_; intro v1 w1 HO1 HB1; obtain ⟨A1, C1, rfl⟩ := HO1.shape' HNX.out (m := 1) rfl))
    refine Handed.intro (((s.size : Int) - (x.pos + (i + 1 + 1))).toNat + 1) (by have := HA.out.2.2.2.1; omega) ?_
    go_step
    exact ⟨i + 1 + 1, A1, C1, _, xs ++ [_], ⟨⟨by have := HNX.out; simp only [List.length_append, List.length_cons, List.length_nil]; omega, by omega, by omega, by rw [← HQ.out]; exact by rw [quoA_esc (by omega) hq HF.out H92.out HES.out]; congr 1; omega, by omega, ⟨fun hh => by simp at hh, fun hh => by exfalso; omega⟩, by have := HA.out.2.2.2.2.2; omega⟩, ⟨HB1⟩, ⟨HO1⟩⟩, to_frame83⟩
end Go.Proofs.YtjepdlmcombmcaaGreatDoor.Lx
