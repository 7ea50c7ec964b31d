/- Numbers: what consumeNumber leaves. Conditions: the lexer's state; a digit or a dot stands at its place. -/
import Derived.Test.YtjepdlmcombmcaaGreatDoorNj
import Derived.Deep.DeepCutAuto
import Derived.Deep.CutBlock
namespace Go.Proofs.YtjepdlmcombmcaaGreatDoor.Lx
open Go.RowKit Go.Proofs.YtjepdlmcombmcaaGreatDoorW.PrintWords

/-- What is left behind the reading of a token: its kind, where it ends, whether a field's name may follow; or a fault. -/
def Reads (b fb : Nat) (x : St) (r : Option (Kd × Int × Bool)) (w : World) (e : Ending) (w' : World) : Prop :=
  match r with
  | some (k, q, d) => e = .returned (.tuple #[]) ∧ Ups b w w' ∧ ∃ K T B, kd K.toList = k ∧ IsL w' b fb { x with kind := K, txt := T, base := B, pos := q, dot := d }
  | none => Fails b fb w e w'
theorem Reads.mono {b fb : Nat} {x : St} {r : Option (Kd × Int × Bool)} {w0 w : World} {e : Ending} {w' : World} (hU : Ups b w0 w) (h : Reads b fb x r w e w') : Reads b fb x r w0 e w' := by
  cases r with
  | some c => exact ⟨h.1, hU.trans h.2.1, h.2.2⟩
  | none => exact ⟨h.1, (hU.two fb).trans h.2⟩

/-! ### how the digits are passed -/
def numE (s : ByteArray) (fl : Bool) (r : Int) : Bool × Int := if isE (bt s r) then (match expo s r with | some e => (false, e) | none => (fl, r)) else (fl, r)
/-- fl: no dot and no exponent yet; ex: the exponent is being passed. -/
def numF (s : ByteArray) (fl ex : Bool) (q : Int) : Bool × Int :=
  if ex then (false, run isDigit s q)
  else if fl && bt s (run isDigit s q) == 46 then numE s false (run isDigit s (run isDigit s q + 1))
  else numE s fl (run isDigit s q)
section
variable {s : ByteArray} {fl ex : Bool} {q : Int}
theorem numF_dig (h : q < (s.size : Int)) (hd : isDigit (bt s q) = true) : numF s fl ex q = numF s fl ex (q + 1) := by
  unfold numF
  rw [run_step h hd]
theorem numF_eof (h : (s.size : Int) ≤ q) (hf : ex = true → fl = false) : numF s fl ex q = (fl, q) := by
  have hr : run isDigit s q = q := run_end h
  have hb : bt s q = 0 := bt_far s q (by omega)
  unfold numF numE
  rw [hr, hb]
  cases ex with
  | true => rw [hf rfl]; rfl
  | false => cases fl <;> rfl
theorem numF_dot (hd : bt s q = 46) : numF s true false q = numF s false false (q + 1) := by
  have hr : run isDigit s q = q := run_stop (by rw [hd]; rfl)
  unfold numF
  rw [hr, hd]
  rfl
theorem numF_stop (hd : isDigit (bt s q) = false) (hdot : (fl && !ex && bt s q == 46) = false) (he : (!ex && isE (bt s q)) = false) (hf : ex = true → fl = false) : numF s fl ex q = (fl, q) := by
  have hr : run isDigit s q = q := run_stop hd
  unfold numF numE
  rw [hr]
  cases ex with
  | true => rw [hf rfl]; rfl
  | false =>
    simp only [Bool.not_false, Bool.and_true, Bool.true_and] at hdot he
    rw [hdot, he]
    rfl
theorem numF_exp (hd : isE (bt s q) = true) : numF s fl false q = (match expo s q with | some e => (false, e) | none => (fl, q)) := by
  have hd0 : isDigit (bt s q) = false := by
    unfold isE at hd
    simp only [Bool.or_eq_true, beq_iff_eq] at hd
    rcases hd with h | h <;> rw [h] <;> rfl
  have hd1 : (bt s q == 46) = false := by
    unfold isE at hd
    simp only [Bool.or_eq_true, beq_iff_eq] at hd
    rcases hd with h | h <;> rw [h] <;> rfl
  have hr : run isDigit s q = q := run_stop hd0
  unfold numF numE
  rw [hr, hd1, hd]
  cases fl <;> rfl
end
def numV (s : ByteArray) (r : Bool × Int) : Option (Bool × Int) := if isPart (bt s r.2) then none else some (!r.1, r.2)
theorem isE_part {c : Int} (h : isE c = true) : isPart c = true := by
  unfold isE at h
  simp only [Bool.or_eq_true, beq_iff_eq] at h
  rcases h with h | h <;> rw [h] <;> rfl
theorem num_dec (s : ByteArray) (p : Int) (h : hexPre s p = false) : num s p = numV s (numF s true false p) := by
  unfold num numF mant dotted
  rw [h]
  simp only [Bool.false_eq_true, if_false, Bool.true_and]
  cases hd : (bt s (run isDigit s p) == 46) with
  | true =>
    simp only [if_true]
    unfold numE
    generalize run isDigit s (run isDigit s p + 1) = r
    cases hE : isE (bt s r) with
    | true =>
      simp only [if_true]
      cases hx : expo s r with
      | none => unfold numV; rw [isE_part hE]; rfl
      | some e => unfold numV; simp
    | false => unfold numV; simp
  | false =>
    simp only [Bool.false_eq_true, if_false]
    unfold numE
    generalize run isDigit s p = r
    cases hE : isE (bt s r) with
    | true =>
      simp only [if_true]
      cases hx : expo s r with
      | none => unfold numV; rw [isE_part hE]; rfl
      | some e => unfold numV; simp
    | false => unfold numV; simp
theorem num_hex (s : ByteArray) (p : Int) (h : hexPre s p = true) : num s p = numV s (true, run isHex s (p + 2)) := by
  unfold num numV
  rw [h]
  simp

def numR (x : St) (r : Option (Bool × Int)) : Option (Kd × Int × Bool) := match r with
  | none => none
  | some (_, e) => some (.other, e, x.dot)
section
variable {s : ByteArray} {q r : Int}
theorem expo_yes (hr : (if bt s (q + 1) == 43 || bt s (q + 1) == 45 then q + 2 else q + 1) = r) (hd : isDigit (bt s r) = true) : expo s q = some (run isDigit s r) := by
  unfold expo
  rw [hr, if_pos hd]
theorem expo_no (hr : (if bt s (q + 1) == 43 || bt s (q + 1) == 45 then q + 2 else q + 1) = r) (hd : isDigit (bt s r) = false) : expo s q = none := by
  unfold expo
  rw [hr, if_neg (by rw [hd]; decide)]
end
theorem kd_lit (l : List UInt8) {k : Kd} (h : kd l = k) : kd (⟨l.toArray⟩ : ByteArray).toList = k := by rw [ByteArray.toList_mk]; exact h
section
variable {w : World} {b fb : Nat} {s : ByteArray} {x : St}
theorem Lx0.set1 (h : Lx0 w b fb s x) (v : ByteArray) : Lx0 (w.setCell ⟨b, 1, none⟩ (.string v)) b fb s { x with kind := v } := h.step ((Ups.refl b w).set 1 _) (h.l.set1 v)
theorem Lx0.set5 (h : Lx0 w b fb s x) (v : ByteArray) : Lx0 (w.setCell ⟨b, 5, none⟩ (.string v)) b fb s { x with txt := v } := h.step ((Ups.refl b w).set 5 _) (h.l.set5 v)
theorem Lx0.set6 (h : Lx0 w b fb s x) (v : Int) : Lx0 (w.setCell ⟨b, 6, none⟩ (.int .i64 v)) b fb s { x with base := v } := h.step ((Ups.refl b w).set 6 _) (h.l.set6 v)
theorem Lx0.set9 (h : Lx0 w b fb s x) (v : Int) : Lx0 (w.setCell ⟨b, 9, none⟩ (.int .i64 v)) b fb s { x with pos := v } := h.step ((Ups.refl b w).set 9 _) (h.l.set9 v)
theorem Lx0.set11 (h : Lx0 w b fb s x) (v : Bool) : Lx0 (w.setCell ⟨b, 11, none⟩ (.bool v)) b fb s { x with dot := v } := h.step ((Ups.refl b w).set 11 _) (h.l.set11 v)
end
set_option maxRecDepth 100000 in
set_option maxHeartbeats 2000000 in
theorem number_hex (w : World) (b fb : Nat) (x : St) (s : ByteArray) (h : Lx0 w b fb s x) (hs : (s.size : Int) ≤ 5000) (hp0 : 0 ≤ x.pos) (hx : hexPre s x.pos = true) :
    Calls Tryz.prog 81 #[.pointer (some ⟨b, 0, none⟩), .bool false] w (Reads b fb x (numR x (num s x.pos)) w) := by
  have hat := h.at_
  have hL := h.l
  rw [num_hex s x.pos hx]
  obtain ⟨R, hR⟩ : ∃ R, numR x (numV s (true, run isHex s (x.pos + 2))) = R := ⟨_, rfl⟩
  have HR := Aside0.mk hR
  rw [hR]
  clear hR
  unfold hexPre at hx
  have c0 : (bt s x.pos == 48) = true := by simp only [Bool.and_eq_true] at hx; exact hx.1
  have hx2 : (bt s (x.pos + 1) == 120 || bt s (x.pos + 1) == 88) = true := by simp only [Bool.and_eq_true] at hx; exact hx.2
  have h1 : x.pos + 1 < (s.size : Int) := by
    simp only [Bool.or_eq_true, beq_iff_eq] at hx2
    rcases hx2 with h | h
    · exact bt_in h (by omega) (by omega)
    · exact bt_in h (by omega) (by omega)
  clear hx
  have hxA : (bt s (x.pos + 1) == 120) = true ∨ (bt s (x.pos + 1) == 120) = false ∧ (bt s (x.pos + 1) == 88) = true := by
    cases hc : (bt s (x.pos + 1) == 120) with
    | true => exact .inl rfl
    | false => rw [hc, Bool.false_or] at hx2; exact .inr ⟨rfl, hx2⟩
  clear hx2
  rcases hxA with cA | ⟨cA, cB⟩
  all_goals
    go_enter Tryz.func81, Tryz.ntmps81
    go_upto_block 0 with (first
      | (go_at_call 73; (first | (with_reducible refine (peekIs0_c b fb s x.pos 0 _ 48 (by omega) hat hp0 (by omega) (by omega) (by omega)).mono ?_) | (with_reducible refine (peekIs0_c b fb s x.pos 0 _ 48 (by omega) (hat.drewN _) hp0 (by omega) (by omega) (by omega)).mono ?_)); rintro e w' ⟨rfl, ⟨n3, rfl⟩⟩)
      | (go_at_call 73; (first | (with_reducible refine (peekIs0_c b fb s x.pos 1 _ 120 (by omega) hat hp0 (by omega) (by omega) (by omega)).mono ?_) | (with_reducible refine (peekIs0_c b fb s x.pos 1 _ 120 (by omega) (hat.drewN _) hp0 (by omega) (by omega) (by omega)).mono ?_)); rintro e w' ⟨rfl, ⟨n3, rfl⟩⟩)
      | (go_at_call 73; (first | (with_reducible refine (peekIs0_c b fb s x.pos 1 _ 88 (by omega) hat hp0 (by omega) (by omega) (by omega)).mono ?_) | (with_reducible refine (peekIs0_c b fb s x.pos 1 _ 88 (by omega) (hat.drewN _) hp0 (by omega) (by omega) (by omega)).mono ?_)); rintro e w' ⟨rfl, ⟨n3, rfl⟩⟩))
    go_cut [4, 6] (fun s4 s6 wx => ∃ i : Int, s4 = .int .i64 i ∧ s6 = .bool true ∧ Aside0 (2 ≤ i ∧ x.pos + i ≤ (s.size : Int) ∧ run isHex s (x.pos + 2) = x.pos + i) ∧ Drawn0 w wx)
    case first =>
      go_wp2_with fail
      go_loopg [4, 6, 7] (((s.size : Int) - x.pos).toNat + 1) (fun kq v4 v6 v7 wr => ∃ i : Int, v4 = .int .i64 i ∧ v6 = .bool true ∧ v7 = .bool false ∧ Aside0 (2 ≤ i ∧ x.pos + i ≤ (s.size : Int) ∧ run isHex s (x.pos + 2) = run isHex s (x.pos + i) ∧ ((s.size : Int) - (x.pos + i)).toNat < kq) ∧ Drawn0 w wr)
      case atStart => exact ⟨2, rfl, rfl, rfl, ⟨Int.le_refl _, by omega, rfl, by omega⟩, by repeat (first | exact Drawn0.refl _ | apply Drawn0.step)⟩
      case round =>
        obtain ⟨i, rfl, rfl, rfl, HA, ⟨m1, rfl⟩⟩ := hrel
        have hi0 := HA.out.1
        have hi1 := HA.out.2.1
        by_cases hlt : x.pos + i < (s.size : Int)
        · have hd1 : decide (x.pos + i < (s.size : Int)) = true := decide_eq_true hlt
          have hw := iwrap (i + 1) (by omega) (by omega)
          cases hq : isHex (bt s (x.pos + i)) with
          | true =>
            have HQ := Aside0.mk hq
            go_wp2_with (first
              | (go_at_call 75; (with_reducible refine (peekOk_c b fb s x.pos _ _ (hat.drewN _) hp0 (by omega) (by omega) (by omega)).mono ?_); rintro e w' ⟨rfl, ⟨n4, rfl⟩⟩)
              | (go_at_call 77; (with_reducible refine (peek_c b fb s x.pos _ _ (hat.drewN _) hp0 (by omega) (by omega) (by omega) (by omega)).mono ?_); rintro e w' ⟨rfl, ⟨n5, rfl⟩⟩)
              | (go_at_call 108; (with_reducible refine (charIsHexDigit_c _ _).mono ?_); rintro e w' ⟨rfl, hw'⟩; obtain rfl := hw'.symm))
            go_roundg (((s.size : Int) - (x.pos + (i + 1))).toNat + 1)
            case measure => have := HA.out.2.2.2; omega
            case rel => exact ⟨i + 1, rfl, rfl, rfl, ⟨by omega, by omega, by rw [HA.out.2.2.1, ← Int.add_assoc]; exact run_step hlt HQ.out, by omega⟩, by repeat (first | exact Drawn0.refl _ | apply Drawn0.step)⟩
          | false =>
            have HQ := Aside0.mk hq
            go_wp2_with (first
              | (go_at_call 75; (with_reducible refine (peekOk_c b fb s x.pos _ _ (hat.drewN _) hp0 (by omega) (by omega) (by omega)).mono ?_); rintro e w' ⟨rfl, ⟨n4, rfl⟩⟩)
              | (go_at_call 77; (with_reducible refine (peek_c b fb s x.pos _ _ (hat.drewN _) hp0 (by omega) (by omega) (by omega) (by omega)).mono ?_); rintro e w' ⟨rfl, ⟨n5, rfl⟩⟩)
              | (go_at_call 108; (with_reducible refine (charIsHexDigit_c _ _).mono ?_); rintro e w' ⟨rfl, hw'⟩; obtain rfl := hw'.symm))
            go_meet
            exact ⟨i, rfl, rfl, ⟨hi0, hi1, by rw [HA.out.2.2.1]; exact run_stop HQ.out⟩, by repeat (first | exact Drawn0.refl _ | apply Drawn0.step)⟩
        · have hd1 : decide (x.pos + i < (s.size : Int)) = false := decide_eq_false hlt
          go_wp2_with (first
            | (go_at_call 75; (with_reducible refine (peekOk_c b fb s x.pos _ _ (hat.drewN _) hp0 (by omega) (by omega) (by omega)).mono ?_); rintro e w' ⟨rfl, ⟨n4, rfl⟩⟩))
          go_meet
          exact ⟨i, rfl, rfl, ⟨hi0, hi1, by rw [HA.out.2.2.1]; exact run_end (by omega)⟩, by repeat (first | exact Drawn0.refl _ | apply Drawn0.step)⟩
    case rest =>
      obtain ⟨i, rfl, rfl, HI0, ⟨m, rfl⟩⟩ := hcut
      have hi2 := HI0.out.1
      have hi0 : 0 ≤ i := by omega
      have hi1 := HI0.out.2.1
      have HI := HI0.out.2.2
      have hq0 : 0 ≤ x.pos + i := by omega
      by_cases hlt : x.pos + i < (s.size : Int)
      · have hd1 : decide (x.pos + i < (s.size : Int)) = true := decide_eq_true hlt
        cases hpt : isPart (bt s (x.pos + i)) with
        | true =>
          have HP := Aside0.mk hpt
          go_wp2_with (first
            | (go_at_call 72; (with_reducible refine (skipN_c b fb s x.pos i _ (hat.drewN _) ((hL.drewN _).free 9) hp0 (by omega) hi0 (by omega)).mono ?_); rintro e w9 ⟨rfl, hw9⟩; have hX9 : Lx0 w9 b fb s { x with pos := x.pos + i } := (by rw [hw9]; exact (h.drewN _).set9 _); have hU9 : Ups b w w9 := (by rw [hw9]; exact ((Ups.refl b w).drewN _).set 9 _); have K1 := hX9.l.c1; have K6 := hX9.l.c6; have Y1 := hX9.l.free 1; have Y6 := hX9.l.free 6; clear hw9)
            | (go_at_call 75; (with_reducible refine (peekOk_c b fb s (x.pos + i) 0 _ ((hX9.set1 _).set6 _).at_ (by omega) (by omega) (by omega) (by omega)).mono ?_); rintro e w' ⟨rfl, ⟨n4, rfl⟩⟩)
            | (go_at_call 77; (with_reducible refine (peek_c b fb s (x.pos + i) 0 _ (((hX9.set1 _).set6 _).drewN _).at_ (by omega) (by omega) (by omega) (by omega) (by omega)).mono ?_); rintro e w' ⟨rfl, ⟨n5, rfl⟩⟩)
            | (go_at_call 76; (with_reducible refine (charIsIdentPart_c _ _).mono ?_); rintro e w' ⟨rfl, hw'⟩; obtain rfl := hw'.symm)
            | (go_at_call 109; (with_reducible refine (panicf_c b fb s _ _ _ (((hX9.set1 _).set6 _).drewN _) hs hq0 hi1).mono ?_); rintro e w' ⟨⟨g, rfl⟩, hU2⟩))
          have hr : R = none := by rw [← HR.out, HI]; unfold numV; rw [HP.out]; rfl
          subst hr
          exact ⟨rfl, ⟨g, rfl⟩, ((((hU9.set 1 _).set 6 _).drewN _).two fb).trans hU2⟩
        | false =>
          have HP := Aside0.mk hpt
          go_wp2_with (first
            | (go_at_call 72; (with_reducible refine (skipN_c b fb s x.pos i _ (hat.drewN _) ((hL.drewN _).free 9) hp0 (by omega) hi0 (by omega)).mono ?_); rintro e w9 ⟨rfl, hw9⟩; have hX9 : Lx0 w9 b fb s { x with pos := x.pos + i } := (by rw [hw9]; exact (h.drewN _).set9 _); have hU9 : Ups b w w9 := (by rw [hw9]; exact ((Ups.refl b w).drewN _).set 9 _); have K1 := hX9.l.c1; have K6 := hX9.l.c6; have Y1 := hX9.l.free 1; have Y6 := hX9.l.free 6; clear hw9)
            | (go_at_call 75; (with_reducible refine (peekOk_c b fb s (x.pos + i) 0 _ ((hX9.set1 _).set6 _).at_ (by omega) (by omega) (by omega) (by omega)).mono ?_); rintro e w' ⟨rfl, ⟨n4, rfl⟩⟩)
            | (go_at_call 77; (with_reducible refine (peek_c b fb s (x.pos + i) 0 _ (((hX9.set1 _).set6 _).drewN _).at_ (by omega) (by omega) (by omega) (by omega) (by omega)).mono ?_); rintro e w' ⟨rfl, ⟨n5, rfl⟩⟩)
            | (go_at_call 76; (with_reducible refine (charIsIdentPart_c _ _).mono ?_); rintro e w' ⟨rfl, hw'⟩; obtain rfl := hw'.symm))
          have hr : R = some (.other, x.pos + i, x.dot) := by rw [← HR.out, HI]; unfold numV; rw [HP.out]; rfl
          subst hr
          go_end0
          exact ⟨rfl, ((hU9.set 1 _).set 6 _).drewN _, ⟨#[60, 105, 110, 116, 62]⟩, _, _, kd_lit _ rfl, (((hX9.set1 _).set6 _).drewN _).l⟩
      · have hd1 : decide (x.pos + i < (s.size : Int)) = false := decide_eq_false hlt
        go_wp2_with (first
          | (go_at_call 72; (with_reducible refine (skipN_c b fb s x.pos i _ (hat.drewN _) ((hL.drewN _).free 9) hp0 (by omega) hi0 (by omega)).mono ?_); rintro e w9 ⟨rfl, hw9⟩; have hX9 : Lx0 w9 b fb s { x with pos := x.pos + i } := (by rw [hw9]; exact (h.drewN _).set9 _); have hU9 : Ups b w w9 := (by rw [hw9]; exact ((Ups.refl b w).drewN _).set 9 _); have K1 := hX9.l.c1; have K6 := hX9.l.c6; have Y1 := hX9.l.free 1; have Y6 := hX9.l.free 6; clear hw9)
          | (go_at_call 75; (with_reducible refine (peekOk_c b fb s (x.pos + i) 0 _ ((hX9.set1 _).set6 _).at_ (by omega) (by omega) (by omega) (by omega)).mono ?_); rintro e w' ⟨rfl, ⟨n4, rfl⟩⟩))
        have hr : R = some (.other, x.pos + i, x.dot) := by rw [← HR.out, HI]; unfold numV; simp only []; rw [bt_far s (x.pos + i) (by omega)]; rfl
        subst hr
        go_end0
        exact ⟨rfl, ((hU9.set 1 _).set 6 _).drewN _, ⟨#[60, 105, 110, 116, 62]⟩, _, _, kd_lit _ rfl, (((hX9.set1 _).set6 _).drewN _).l⟩
set_option maxRecDepth 100000 in
set_option maxHeartbeats 4000000 in
theorem number_dec (w : World) (b fb : Nat) (x : St) (s : ByteArray) (h : Lx0 w b fb s x) (hs : (s.size : Int) ≤ 5000) (hp0 : 0 ≤ x.pos) (hp : x.pos < (s.size : Int)) (hx : hexPre s x.pos = false) :
    Calls Tryz.prog 81 #[.pointer (some ⟨b, 0, none⟩), .bool false] w (Reads b fb x (numR x (num s x.pos)) w) := by
  have hat := h.at_
  have hL := h.l
  rw [num_dec s x.pos hx]
  obtain ⟨R, hR⟩ : ∃ R, numR x (numV s (numF s true false x.pos)) = R := ⟨_, rfl⟩
  have HR := Aside0.mk hR
  rw [hR]
  clear hR
  unfold hexPre at hx
  have hxA : (bt s x.pos == 48) = false ∨ (bt s x.pos == 48) = true ∧ (bt s (x.pos + 1) == 120) = false ∧ (bt s (x.pos + 1) == 88) = false := by
    cases hc : (bt s x.pos == 48) with
    | false => exact .inl rfl
    | true => rw [hc, Bool.true_and] at hx; simp only [Bool.or_eq_false_iff] at hx; exact .inr ⟨rfl, hx.1, hx.2⟩
  clear hx
  go_enter Tryz.func81, Tryz.ntmps81
  go_upto_region 2 with fail
  go_cut [24] (fun s24 wx => s24 = .bool false ∧ Drawn0 w wx)
  case first =>
    rcases hxA with cA | ⟨cA, cB, cC⟩
    all_goals
      go_wp2_with (first
        | (go_at_call 73; (first | (with_reducible refine (peekIs0_c b fb s x.pos 0 _ 48 (by omega) hat hp0 (by omega) (by omega) (by omega)).mono ?_) | (with_reducible refine (peekIs0_c b fb s x.pos 0 _ 48 (by omega) (hat.drewN _) hp0 (by omega) (by omega) (by omega)).mono ?_)); rintro e w' ⟨rfl, ⟨n3, rfl⟩⟩)
        | (go_at_call 73; (first | (with_reducible refine (peekIs0_c b fb s x.pos 1 _ 120 (by omega) hat hp0 (by omega) (by omega) (by omega)).mono ?_) | (with_reducible refine (peekIs0_c b fb s x.pos 1 _ 120 (by omega) (hat.drewN _) hp0 (by omega) (by omega) (by omega)).mono ?_)); rintro e w' ⟨rfl, ⟨n3, rfl⟩⟩)
        | (go_at_call 73; (first | (with_reducible refine (peekIs0_c b fb s x.pos 1 _ 88 (by omega) hat hp0 (by omega) (by omega) (by omega)).mono ?_) | (with_reducible refine (peekIs0_c b fb s x.pos 1 _ 88 (by omega) (hat.drewN _) hp0 (by omega) (by omega) (by omega)).mono ?_)); rintro e w' ⟨rfl, ⟨n3, rfl⟩⟩))
      go_meet
      exact ⟨rfl, by repeat (first | exact Drawn0.refl _ | apply Drawn0.step)⟩
  case rest =>
    obtain ⟨rfl, ⟨m0, rfl⟩⟩ := hcut
    clear hxA
    go_upto_block 0 with fail
    go_cut [4, 6] (fun s4 s6 wx => ∃ (i : Int) (fl : Bool), s4 = .int .i64 i ∧ s6 = .bool fl ∧ Aside0 (0 ≤ i ∧ x.pos + i ≤ (s.size : Int) ∧ numF s true false x.pos = (fl, x.pos + i)) ∧ Drawn0 w wx)
    case first =>
      go_wp2_with fail
      go_loopg [4, 6, 7] (((s.size : Int) - x.pos).toNat + 1) (fun kq v4 v6 v7 wr => ∃ (i : Int) (fl ex : Bool), v4 = .int .i64 i ∧ v6 = .bool fl ∧ v7 = .bool ex ∧ Aside0 (0 ≤ i ∧ x.pos + i ≤ (s.size : Int) ∧ numF s true false x.pos = numF s fl ex (x.pos + i) ∧ ((s.size : Int) - (x.pos + i)).toNat < kq ∧ (ex = true → fl = false)) ∧ Drawn0 w wr)
      case atStart => exact ⟨0, true, false, rfl, rfl, rfl, ⟨Int.le_refl _, by omega, by rw [Int.add_zero], by omega, fun h => by cases h⟩, by repeat (first | exact Drawn0.refl _ | apply Drawn0.step)⟩
      case round =>
        obtain ⟨i, fl, ex, rfl, rfl, rfl, HA, ⟨m1, rfl⟩⟩ := hrel
        have hi0 := HA.out.1
        have hi1 := HA.out.2.1
        have HM := HA.out.2.2.2.1
        have HF := Aside0.mk HA.out.2.2.2.2
        have HN := Aside0.mk HA.out.2.2.1
        clear HA
        by_cases hlt : x.pos + i < (s.size : Int)
        · have hd1 : decide (x.pos + i < (s.size : Int)) = true := decide_eq_true hlt
          have hw := iwrap (i + 1) (by omega) (by omega)
          cases hq : isDigit (bt s (x.pos + i)) with
          | true =>
            have HQ := Aside0.mk hq
            go_wp2_with (first
              | (go_at_call 75; (with_reducible refine (peekOk_c b fb s x.pos _ _ (hat.drewN _) hp0 (by omega) (by omega) (by omega)).mono ?_); rintro e w' ⟨rfl, ⟨n4, rfl⟩⟩)
              | (go_at_call 77; (with_reducible refine (peek_c b fb s x.pos _ _ (hat.drewN _) hp0 (by omega) (by omega) (by omega) (by omega)).mono ?_); rintro e w' ⟨rfl, ⟨n5, rfl⟩⟩)
              | (go_at_call 80; (with_reducible refine (charIsDigit_c _ _).mono ?_); rintro e w' ⟨rfl, hw'⟩; obtain rfl := hw'.symm))
            go_roundg (((s.size : Int) - (x.pos + (i + 1))).toNat + 1)
            case measure => omega
            case rel => exact ⟨i + 1, fl, ex, rfl, rfl, rfl, ⟨by omega, by omega, by rw [HN.out, ← Int.add_assoc]; exact numF_dig hlt HQ.out, by omega, HF.out⟩, by repeat (first | exact Drawn0.refl _ | apply Drawn0.step)⟩
          | false =>
            have HQ := Aside0.mk hq
            cases ex with
            | true =>
              obtain rfl : fl = false := HF.out rfl
              go_wp2_with (first
                | (go_at_call 75; (with_reducible refine (peekOk_c b fb s x.pos _ _ (hat.drewN _) hp0 (by omega) (by omega) (by omega)).mono ?_); rintro e w' ⟨rfl, ⟨n4, rfl⟩⟩)
                | (go_at_call 77; (with_reducible refine (peek_c b fb s x.pos _ _ (hat.drewN _) hp0 (by omega) (by omega) (by omega) (by omega)).mono ?_); rintro e w' ⟨rfl, ⟨n5, rfl⟩⟩)
                | (go_at_call 80; (with_reducible refine (charIsDigit_c _ _).mono ?_); rintro e w' ⟨rfl, hw'⟩; obtain rfl := hw'.symm))
              go_meet
              exact ⟨i, false, rfl, rfl, ⟨hi0, hi1, by rw [HN.out]; exact numF_stop HQ.out (by simp) (by simp) (fun _ => rfl)⟩, by repeat (first | exact Drawn0.refl _ | apply Drawn0.step)⟩
            | false =>
            cases f46 : (fl && bt s (x.pos + i) == 46) with
            | true =>
              obtain ⟨rfl, g46⟩ : fl = true ∧ (bt s (x.pos + i) == 46) = true := by simpa using f46
              clear f46
              have HQ2 := Aside0.mk (beq_iff_eq.1 g46)
              go_wp2_with (first
                | (go_at_call 75; (with_reducible refine (peekOk_c b fb s x.pos _ _ (hat.drewN _) hp0 (by omega) (by omega) (by omega)).mono ?_); rintro e w' ⟨rfl, ⟨n4, rfl⟩⟩)
                | (go_at_call 77; (with_reducible refine (peek_c b fb s x.pos _ _ (hat.drewN _) hp0 (by omega) (by omega) (by omega) (by omega)).mono ?_); rintro e w' ⟨rfl, ⟨n5, rfl⟩⟩)
                | (go_at_call 80; (with_reducible refine (charIsDigit_c _ _).mono ?_); rintro e w' ⟨rfl, hw'⟩; obtain rfl := hw'.symm))
              go_roundg (((s.size : Int) - (x.pos + (i + 1))).toNat + 1)
              case measure => omega
              case rel => exact ⟨i + 1, false, false, rfl, rfl, rfl, ⟨by omega, by omega, by rw [HN.out, ← Int.add_assoc]; exact numF_dot HQ2.out, by omega, fun h => by cases h⟩, by repeat (first | exact Drawn0.refl _ | apply Drawn0.step)⟩
            | false =>
              have H46 := Aside0.mk f46
              have f46' : fl = false ∨ fl = true ∧ (bt s (x.pos + i) == 46) = false := by
                cases fl with
                | false => exact .inl rfl
                | true => exact .inr ⟨rfl, by simpa using f46⟩
              clear f46
              have cE : (bt s (x.pos + i) == 69) = true ∨ (bt s (x.pos + i) == 69) = false ∧ (bt s (x.pos + i) == 101) = true ∨ (bt s (x.pos + i) == 69) = false ∧ (bt s (x.pos + i) == 101) = false := by
                cases (bt s (x.pos + i) == 69) <;> cases (bt s (x.pos + i) == 101) <;> simp
              cases hE : isE (bt s (x.pos + i)) with
              | false =>
                have HE := Aside0.mk hE
                unfold isE at hE
                simp only [Bool.or_eq_false_iff] at hE
                obtain ⟨e1, e2⟩ := hE
                clear cE
                rcases f46' with rfl | ⟨rfl, g46⟩
                · go_wp2_with (first
                    | (go_at_call 75; (with_reducible refine (peekOk_c b fb s x.pos _ _ (hat.drewN _) hp0 (by omega) (by omega) (by omega)).mono ?_); rintro e w' ⟨rfl, ⟨n4, rfl⟩⟩)
                    | (go_at_call 77; (with_reducible refine (peek_c b fb s x.pos _ _ (hat.drewN _) hp0 (by omega) (by omega) (by omega) (by omega)).mono ?_); rintro e w' ⟨rfl, ⟨n5, rfl⟩⟩)
                    | (go_at_call 80; (with_reducible refine (charIsDigit_c _ _).mono ?_); rintro e w' ⟨rfl, hw'⟩; obtain rfl := hw'.symm))
                  go_meet
                  exact ⟨i, false, rfl, rfl, ⟨hi0, hi1, by rw [HN.out]; exact numF_stop HQ.out (by simp) (by rw [HE.out]; rfl) (fun h => by cases h)⟩, by repeat (first | exact Drawn0.refl _ | apply Drawn0.step)⟩
                · go_wp2_with (first
                    | (go_at_call 75; (with_reducible refine (peekOk_c b fb s x.pos _ _ (hat.drewN _) hp0 (by omega) (by omega) (by omega)).mono ?_); rintro e w' ⟨rfl, ⟨n4, rfl⟩⟩)
                    | (go_at_call 77; (with_reducible refine (peek_c b fb s x.pos _ _ (hat.drewN _) hp0 (by omega) (by omega) (by omega) (by omega)).mono ?_); rintro e w' ⟨rfl, ⟨n5, rfl⟩⟩)
                    | (go_at_call 80; (with_reducible refine (charIsDigit_c _ _).mono ?_); rintro e w' ⟨rfl, hw'⟩; obtain rfl := hw'.symm))
                  go_meet
                  exact ⟨i, true, rfl, rfl, ⟨hi0, hi1, by rw [HN.out]; exact numF_stop HQ.out (by simpa using H46.out) (by rw [HE.out]; rfl) (fun h => by cases h)⟩, by repeat (first | exact Drawn0.refl _ | apply Drawn0.step)⟩
              | true =>
                have HE := Aside0.mk hE
                have hw2 := iwrap (i + 2) (by omega) (by omega)
                have hw3 := iwrap (i + 1 + 1) (by omega) (by omega)
                clear hE
                have e0 : x.pos + i + 1 = x.pos + (i + 1) := by omega
                have E0 := Aside0.mk e0
                clear e0
                rcases f46' with rfl | ⟨rfl, g46⟩
                all_goals
                  rcases cE with e1 | ⟨e1, e2⟩ | ⟨e1, e2⟩
                  rotate_right
                  · exfalso
                    have := HE.out
                    unfold isE at this
                    rw [e1, e2] at this
                    cases this
                  all_goals
                    cases c43 : (bt s (x.pos + (i + 1)) == 43) with
                    | true =>
                      have C43 := Aside0.mk c43
                      by_cases hk : x.pos + (i + 1 + 1) < (s.size : Int)
                      · have hdk : decide (x.pos + (i + 1 + 1) < (s.size : Int)) = true := decide_eq_true hk
                        cases hd : isDigit (bt s (x.pos + (i + 1 + 1))) with
                        | true =>
                          have HD := Aside0.mk hd
                          go_wp2_with (first
                            | (go_at_call 73; (first | (with_reducible refine (peekIs0_c b fb s x.pos (i + 1) _ 43 (by omega) hat hp0 (by omega) (by omega) (by omega)).mono ?_) | (with_reducible refine (peekIs0_c b fb s x.pos (i + 1) _ 43 (by omega) (hat.drewN _) hp0 (by omega) (by omega) (by omega)).mono ?_)); rintro e w' ⟨rfl, ⟨n3, rfl⟩⟩)
                            | (go_at_call 73; (first | (with_reducible refine (peekIs0_c b fb s x.pos (i + 1) _ 45 (by omega) hat hp0 (by omega) (by omega) (by omega)).mono ?_) | (with_reducible refine (peekIs0_c b fb s x.pos (i + 1) _ 45 (by omega) (hat.drewN _) hp0 (by omega) (by omega) (by omega)).mono ?_)); rintro e w' ⟨rfl, ⟨n3, rfl⟩⟩)
                            | (go_at_call 75; (with_reducible refine (peekOk_c b fb s x.pos _ _ (hat.drewN _) hp0 (by omega) (by omega) (by omega)).mono ?_); rintro e w' ⟨rfl, ⟨n4, rfl⟩⟩)
                            | (go_at_call 77; (with_reducible refine (peek_c b fb s x.pos _ _ (hat.drewN _) hp0 (by omega) (by omega) (by omega) (by omega)).mono ?_); rintro e w' ⟨rfl, ⟨n5, rfl⟩⟩)
                            | (go_at_call 80; (with_reducible refine (charIsDigit_c _ _).mono ?_); rintro e w' ⟨rfl, hw'⟩; obtain rfl := hw'.symm))
                          go_roundg (((s.size : Int) - (x.pos + (i + 1 + 1))).toNat + 1)
                          case measure => omega
                          case rel => exact ⟨i + 1 + 1, false, true, rfl, rfl, rfl, ⟨by omega, by omega, by rw [HN.out, numF_exp HE.out, expo_yes (r := x.pos + (i + 1 + 1)) (by rw [E0.out]; rw [if_pos (by simp [C43.out])]; omega) HD.out]; rfl, by omega, fun _ => rfl⟩, by repeat (first | exact Drawn0.refl _ | apply Drawn0.step)⟩
                        | false =>
                          have HD := Aside0.mk hd
                          go_wp2_with (first
                            | (go_at_call 73; (first | (with_reducible refine (peekIs0_c b fb s x.pos (i + 1) _ 43 (by omega) hat hp0 (by omega) (by omega) (by omega)).mono ?_) | (with_reducible refine (peekIs0_c b fb s x.pos (i + 1) _ 43 (by omega) (hat.drewN _) hp0 (by omega) (by omega) (by omega)).mono ?_)); rintro e w' ⟨rfl, ⟨n3, rfl⟩⟩)
                            | (go_at_call 73; (first | (with_reducible refine (peekIs0_c b fb s x.pos (i + 1) _ 45 (by omega) hat hp0 (by omega) (by omega) (by omega)).mono ?_) | (with_reducible refine (peekIs0_c b fb s x.pos (i + 1) _ 45 (by omega) (hat.drewN _) hp0 (by omega) (by omega) (by omega)).mono ?_)); rintro e w' ⟨rfl, ⟨n3, rfl⟩⟩)
                            | (go_at_call 75; (with_reducible refine (peekOk_c b fb s x.pos _ _ (hat.drewN _) hp0 (by omega) (by omega) (by omega)).mono ?_); rintro e w' ⟨rfl, ⟨n4, rfl⟩⟩)
                            | (go_at_call 77; (with_reducible refine (peek_c b fb s x.pos _ _ (hat.drewN _) hp0 (by omega) (by omega) (by omega) (by omega)).mono ?_); rintro e w' ⟨rfl, ⟨n5, rfl⟩⟩)
                            | (go_at_call 80; (with_reducible refine (charIsDigit_c _ _).mono ?_); rintro e w' ⟨rfl, hw'⟩; obtain rfl := hw'.symm))
                          go_meet
                          exact ⟨i, _, rfl, rfl, ⟨hi0, hi1, by rw [HN.out, numF_exp HE.out, expo_no (r := x.pos + (i + 1 + 1)) (by rw [E0.out]; rw [if_pos (by simp [C43.out])]; omega) HD.out]⟩, by repeat (first | exact Drawn0.refl _ | apply Drawn0.step)⟩
                      · have hdk : decide (x.pos + (i + 1 + 1) < (s.size : Int)) = false := decide_eq_false hk
                        go_wp2_with (first
                          | (go_at_call 73; (first | (with_reducible refine (peekIs0_c b fb s x.pos (i + 1) _ 43 (by omega) hat hp0 (by omega) (by omega) (by omega)).mono ?_) | (with_reducible refine (peekIs0_c b fb s x.pos (i + 1) _ 43 (by omega) (hat.drewN _) hp0 (by omega) (by omega) (by omega)).mono ?_)); rintro e w' ⟨rfl, ⟨n3, rfl⟩⟩)
                          | (go_at_call 73; (first | (with_reducible refine (peekIs0_c b fb s x.pos (i + 1) _ 45 (by omega) hat hp0 (by omega) (by omega) (by omega)).mono ?_) | (with_reducible refine (peekIs0_c b fb s x.pos (i + 1) _ 45 (by omega) (hat.drewN _) hp0 (by omega) (by omega) (by omega)).mono ?_)); rintro e w' ⟨rfl, ⟨n3, rfl⟩⟩)
                          | (go_at_call 75; (with_reducible refine (peekOk_c b fb s x.pos _ _ (hat.drewN _) hp0 (by omega) (by omega) (by omega)).mono ?_); rintro e w' ⟨rfl, ⟨n4, rfl⟩⟩)
                          | (go_at_call 77; (with_reducible refine (peek_c b fb s x.pos _ _ (hat.drewN _) hp0 (by omega) (by omega) (by omega) (by omega)).mono ?_); rintro e w' ⟨rfl, ⟨n5, rfl⟩⟩)
                          | (go_at_call 80; (with_reducible refine (charIsDigit_c _ _).mono ?_); rintro e w' ⟨rfl, hw'⟩; obtain rfl := hw'.symm))
                        go_meet
                        exact ⟨i, _, rfl, rfl, ⟨hi0, hi1, by rw [HN.out, numF_exp HE.out, expo_no (r := x.pos + (i + 1 + 1)) (by rw [E0.out]; rw [if_pos (by simp [C43.out])]; omega) (by rw [bt_far s (x.pos + (i + 1 + 1)) (by omega)]; rfl)]⟩, by repeat (first | exact Drawn0.refl _ | apply Drawn0.step)⟩
                    | false =>
                    cases c45 : (bt s (x.pos + (i + 1)) == 45) with
                    | true =>
                      have C43 := Aside0.mk c43
                      have C45 := Aside0.mk c45
                      by_cases hk : x.pos + (i + 1 + 1) < (s.size : Int)
                      · have hdk : decide (x.pos + (i + 1 + 1) < (s.size : Int)) = true := decide_eq_true hk
                        cases hd : isDigit (bt s (x.pos + (i + 1 + 1))) with
                        | true =>
                          have HD := Aside0.mk hd
                          go_wp2_with (first
                            | (go_at_call 73; (first | (with_reducible refine (peekIs0_c b fb s x.pos (i + 1) _ 43 (by omega) hat hp0 (by omega) (by omega) (by omega)).mono ?_) | (with_reducible refine (peekIs0_c b fb s x.pos (i + 1) _ 43 (by omega) (hat.drewN _) hp0 (by omega) (by omega) (by omega)).mono ?_)); rintro e w' ⟨rfl, ⟨n3, rfl⟩⟩)
                            | (go_at_call 73; (first | (with_reducible refine (peekIs0_c b fb s x.pos (i + 1) _ 45 (by omega) hat hp0 (by omega) (by omega) (by omega)).mono ?_) | (with_reducible refine (peekIs0_c b fb s x.pos (i + 1) _ 45 (by omega) (hat.drewN _) hp0 (by omega) (by omega) (by omega)).mono ?_)); rintro e w' ⟨rfl, ⟨n3, rfl⟩⟩)
                            | (go_at_call 75; (with_reducible refine (peekOk_c b fb s x.pos _ _ (hat.drewN _) hp0 (by omega) (by omega) (by omega)).mono ?_); rintro e w' ⟨rfl, ⟨n4, rfl⟩⟩)
                            | (go_at_call 77; (with_reducible refine (peek_c b fb s x.pos _ _ (hat.drewN _) hp0 (by omega) (by omega) (by omega) (by omega)).mono ?_); rintro e w' ⟨rfl, ⟨n5, rfl⟩⟩)
                            | (go_at_call 80; (with_reducible refine (charIsDigit_c _ _).mono ?_); rintro e w' ⟨rfl, hw'⟩; obtain rfl := hw'.symm))
                          go_roundg (((s.size : Int) - (x.pos + (i + 1 + 1))).toNat + 1)
                          case measure => omega
                          case rel => exact ⟨i + 1 + 1, false, true, rfl, rfl, rfl, ⟨by omega, by omega, by rw [HN.out, numF_exp HE.out, expo_yes (r := x.pos + (i + 1 + 1)) (by rw [E0.out]; rw [if_pos (by simp [C43.out, C45.out])]; omega) HD.out]; rfl, by omega, fun _ => rfl⟩, by repeat (first | exact Drawn0.refl _ | apply Drawn0.step)⟩
                        | false =>
                          have HD := Aside0.mk hd
                          go_wp2_with (first
                            | (go_at_call 73; (first | (with_reducible refine (peekIs0_c b fb s x.pos (i + 1) _ 43 (by omega) hat hp0 (by omega) (by omega) (by omega)).mono ?_) | (with_reducible refine (peekIs0_c b fb s x.pos (i + 1) _ 43 (by omega) (hat.drewN _) hp0 (by omega) (by omega) (by omega)).mono ?_)); rintro e w' ⟨rfl, ⟨n3, rfl⟩⟩)
                            | (go_at_call 73; (first | (with_reducible refine (peekIs0_c b fb s x.pos (i + 1) _ 45 (by omega) hat hp0 (by omega) (by omega) (by omega)).mono ?_) | (with_reducible refine (peekIs0_c b fb s x.pos (i + 1) _ 45 (by omega) (hat.drewN _) hp0 (by omega) (by omega) (by omega)).mono ?_)); rintro e w' ⟨rfl, ⟨n3, rfl⟩⟩)
                            | (go_at_call 75; (with_reducible refine (peekOk_c b fb s x.pos _ _ (hat.drewN _) hp0 (by omega) (by omega) (by omega)).mono ?_); rintro e w' ⟨rfl, ⟨n4, rfl⟩⟩)
                            | (go_at_call 77; (with_reducible refine (peek_c b fb s x.pos _ _ (hat.drewN _) hp0 (by omega) (by omega) (by omega) (by omega)).mono ?_); rintro e w' ⟨rfl, ⟨n5, rfl⟩⟩)
                            | (go_at_call 80; (with_reducible refine (charIsDigit_c _ _).mono ?_); rintro e w' ⟨rfl, hw'⟩; obtain rfl := hw'.symm))
                          go_meet
                          exact ⟨i, _, rfl, rfl, ⟨hi0, hi1, by rw [HN.out, numF_exp HE.out, expo_no (r := x.pos + (i + 1 + 1)) (by rw [E0.out]; rw [if_pos (by simp [C43.out, C45.out])]; omega) HD.out]⟩, by repeat (first | exact Drawn0.refl _ | apply Drawn0.step)⟩
                      · have hdk : decide (x.pos + (i + 1 + 1) < (s.size : Int)) = false := decide_eq_false hk
                        go_wp2_with (first
                          | (go_at_call 73; (first | (with_reducible refine (peekIs0_c b fb s x.pos (i + 1) _ 43 (by omega) hat hp0 (by omega) (by omega) (by omega)).mono ?_) | (with_reducible refine (peekIs0_c b fb s x.pos (i + 1) _ 43 (by omega) (hat.drewN _) hp0 (by omega) (by omega) (by omega)).mono ?_)); rintro e w' ⟨rfl, ⟨n3, rfl⟩⟩)
                          | (go_at_call 73; (first | (with_reducible refine (peekIs0_c b fb s x.pos (i + 1) _ 45 (by omega) hat hp0 (by omega) (by omega) (by omega)).mono ?_) | (with_reducible refine (peekIs0_c b fb s x.pos (i + 1) _ 45 (by omega) (hat.drewN _) hp0 (by omega) (by omega) (by omega)).mono ?_)); rintro e w' ⟨rfl, ⟨n3, rfl⟩⟩)
                          | (go_at_call 75; (with_reducible refine (peekOk_c b fb s x.pos _ _ (hat.drewN _) hp0 (by omega) (by omega) (by omega)).mono ?_); rintro e w' ⟨rfl, ⟨n4, rfl⟩⟩)
                          | (go_at_call 77; (with_reducible refine (peek_c b fb s x.pos _ _ (hat.drewN _) hp0 (by omega) (by omega) (by omega) (by omega)).mono ?_); rintro e w' ⟨rfl, ⟨n5, rfl⟩⟩)
                          | (go_at_call 80; (with_reducible refine (charIsDigit_c _ _).mono ?_); rintro e w' ⟨rfl, hw'⟩; obtain rfl := hw'.symm))
                        go_meet
                        exact ⟨i, _, rfl, rfl, ⟨hi0, hi1, by rw [HN.out, numF_exp HE.out, expo_no (r := x.pos + (i + 1 + 1)) (by rw [E0.out]; rw [if_pos (by simp [C43.out, C45.out])]; omega) (by rw [bt_far s (x.pos + (i + 1 + 1)) (by omega)]; rfl)]⟩, by repeat (first | exact Drawn0.refl _ | apply Drawn0.step)⟩
                    | false =>
                      have C43 := Aside0.mk c43
                      have C45 := Aside0.mk c45
                      by_cases hk : x.pos + (i + 1) < (s.size : Int)
                      · have hdk : decide (x.pos + (i + 1) < (s.size : Int)) = true := decide_eq_true hk
                        cases hd : isDigit (bt s (x.pos + (i + 1))) with
                        | true =>
                          have HD := Aside0.mk hd
                          go_wp2_with (first
                            | (go_at_call 73; (first | (with_reducible refine (peekIs0_c b fb s x.pos (i + 1) _ 43 (by omega) hat hp0 (by omega) (by omega) (by omega)).mono ?_) | (with_reducible refine (peekIs0_c b fb s x.pos (i + 1) _ 43 (by omega) (hat.drewN _) hp0 (by omega) (by omega) (by omega)).mono ?_)); rintro e w' ⟨rfl, ⟨n3, rfl⟩⟩)
                            | (go_at_call 73; (first | (with_reducible refine (peekIs0_c b fb s x.pos (i + 1) _ 45 (by omega) hat hp0 (by omega) (by omega) (by omega)).mono ?_) | (with_reducible refine (peekIs0_c b fb s x.pos (i + 1) _ 45 (by omega) (hat.drewN _) hp0 (by omega) (by omega) (by omega)).mono ?_)); rintro e w' ⟨rfl, ⟨n3, rfl⟩⟩)
                            | (go_at_call 75; (with_reducible refine (peekOk_c b fb s x.pos _ _ (hat.drewN _) hp0 (by omega) (by omega) (by omega)).mono ?_); rintro e w' ⟨rfl, ⟨n4, rfl⟩⟩)
                            | (go_at_call 77; (with_reducible refine (peek_c b fb s x.pos _ _ (hat.drewN _) hp0 (by omega) (by omega) (by omega) (by omega)).mono ?_); rintro e w' ⟨rfl, ⟨n5, rfl⟩⟩)
                            | (go_at_call 80; (with_reducible refine (charIsDigit_c _ _).mono ?_); rintro e w' ⟨rfl, hw'⟩; obtain rfl := hw'.symm))
                          go_roundg (((s.size : Int) - (x.pos + (i + 1))).toNat + 1)
                          case measure => omega
                          case rel => exact ⟨i + 1, false, true, rfl, rfl, rfl, ⟨by omega, by omega, by rw [HN.out, numF_exp HE.out, expo_yes (r := x.pos + (i + 1)) (by rw [E0.out]; rw [if_neg (by simp [C43.out, C45.out])]) HD.out]; rfl, by omega, fun _ => rfl⟩, by repeat (first | exact Drawn0.refl _ | apply Drawn0.step)⟩
                        | false =>
                          have HD := Aside0.mk hd
                          go_wp2_with (first
                            | (go_at_call 73; (first | (with_reducible refine (peekIs0_c b fb s x.pos (i + 1) _ 43 (by omega) hat hp0 (by omega) (by omega) (by omega)).mono ?_) | (with_reducible refine (peekIs0_c b fb s x.pos (i + 1) _ 43 (by omega) (hat.drewN _) hp0 (by omega) (by omega) (by omega)).mono ?_)); rintro e w' ⟨rfl, ⟨n3, rfl⟩⟩)
                            | (go_at_call 73; (first | (with_reducible refine (peekIs0_c b fb s x.pos (i + 1) _ 45 (by omega) hat hp0 (by omega) (by omega) (by omega)).mono ?_) | (with_reducible refine (peekIs0_c b fb s x.pos (i + 1) _ 45 (by omega) (hat.drewN _) hp0 (by omega) (by omega) (by omega)).mono ?_)); rintro e w' ⟨rfl, ⟨n3, rfl⟩⟩)
                            | (go_at_call 75; (with_reducible refine (peekOk_c b fb s x.pos _ _ (hat.drewN _) hp0 (by omega) (by omega) (by omega)).mono ?_); rintro e w' ⟨rfl, ⟨n4, rfl⟩⟩)
                            | (go_at_call 77; (with_reducible refine (peek_c b fb s x.pos _ _ (hat.drewN _) hp0 (by omega) (by omega) (by omega) (by omega)).mono ?_); rintro e w' ⟨rfl, ⟨n5, rfl⟩⟩)
                            | (go_at_call 80; (with_reducible refine (charIsDigit_c _ _).mono ?_); rintro e w' ⟨rfl, hw'⟩; obtain rfl := hw'.symm))
                          go_meet
                          exact ⟨i, _, rfl, rfl, ⟨hi0, hi1, by rw [HN.out, numF_exp HE.out, expo_no (r := x.pos + (i + 1)) (by rw [E0.out]; rw [if_neg (by simp [C43.out, C45.out])]) HD.out]⟩, by repeat (first | exact Drawn0.refl _ | apply Drawn0.step)⟩
                      · have hdk : decide (x.pos + (i + 1) < (s.size : Int)) = false := decide_eq_false hk
                        go_wp2_with (first
                          | (go_at_call 73; (first | (with_reducible refine (peekIs0_c b fb s x.pos (i + 1) _ 43 (by omega) hat hp0 (by omega) (by omega) (by omega)).mono ?_) | (with_reducible refine (peekIs0_c b fb s x.pos (i + 1) _ 43 (by omega) (hat.drewN _) hp0 (by omega) (by omega) (by omega)).mono ?_)); rintro e w' ⟨rfl, ⟨n3, rfl⟩⟩)
                          | (go_at_call 73; (first | (with_reducible refine (peekIs0_c b fb s x.pos (i + 1) _ 45 (by omega) hat hp0 (by omega) (by omega) (by omega)).mono ?_) | (with_reducible refine (peekIs0_c b fb s x.pos (i + 1) _ 45 (by omega) (hat.drewN _) hp0 (by omega) (by omega) (by omega)).mono ?_)); rintro e w' ⟨rfl, ⟨n3, rfl⟩⟩)
                          | (go_at_call 75; (with_reducible refine (peekOk_c b fb s x.pos _ _ (hat.drewN _) hp0 (by omega) (by omega) (by omega)).mono ?_); rintro e w' ⟨rfl, ⟨n4, rfl⟩⟩)
                          | (go_at_call 77; (with_reducible refine (peek_c b fb s x.pos _ _ (hat.drewN _) hp0 (by omega) (by omega) (by omega) (by omega)).mono ?_); rintro e w' ⟨rfl, ⟨n5, rfl⟩⟩)
                          | (go_at_call 80; (with_reducible refine (charIsDigit_c _ _).mono ?_); rintro e w' ⟨rfl, hw'⟩; obtain rfl := hw'.symm))
                        go_meet
                        exact ⟨i, _, rfl, rfl, ⟨hi0, hi1, by rw [HN.out, numF_exp HE.out, expo_no (r := x.pos + (i + 1)) (by rw [E0.out]; rw [if_neg (by simp [C43.out, C45.out])]) (by rw [bt_far s (x.pos + (i + 1)) (by omega)]; rfl)]⟩, by repeat (first | exact Drawn0.refl _ | apply Drawn0.step)⟩
        · have hd1 : decide (x.pos + i < (s.size : Int)) = false := decide_eq_false hlt
          go_wp2_with (first
            | (go_at_call 75; (with_reducible refine (peekOk_c b fb s x.pos _ _ (hat.drewN _) hp0 (by omega) (by omega) (by omega)).mono ?_); rintro e w' ⟨rfl, ⟨n4, rfl⟩⟩))
          go_meet
          exact ⟨i, fl, rfl, rfl, ⟨hi0, hi1, by rw [HN.out]; exact numF_eof (by omega) HF.out⟩, by repeat (first | exact Drawn0.refl _ | apply Drawn0.step)⟩
    case rest =>
      obtain ⟨i, fl, rfl, rfl, HI0, ⟨m, rfl⟩⟩ := hcut
      have hi0 := HI0.out.1
      have hi1 := HI0.out.2.1
      have HI := HI0.out.2.2
      cases fl with
      | true =>
        have hq0 : 0 ≤ x.pos + i := by omega
        by_cases hlt : x.pos + i < (s.size : Int)
        · have hd1 : decide (x.pos + i < (s.size : Int)) = true := decide_eq_true hlt
          cases hpt : isPart (bt s (x.pos + i)) with
          | true =>
            have HP := Aside0.mk hpt
            go_wp2_with (first
              | (go_at_call 72; (with_reducible refine (skipN_c b fb s x.pos i _ (hat.drewN _) ((hL.drewN _).free 9) hp0 (by omega) hi0 (by omega)).mono ?_); rintro e w9 ⟨rfl, hw9⟩; have hX9 : Lx0 w9 b fb s { x with pos := x.pos + i } := (by rw [hw9]; exact (h.drewN _).set9 _); have hU9 : Ups b w w9 := (by rw [hw9]; exact ((Ups.refl b w).drewN _).set 9 _); have K1 := hX9.l.c1; have K6 := hX9.l.c6; have Y1 := hX9.l.free 1; have Y6 := hX9.l.free 6; clear hw9)
              | (go_at_call 75; (with_reducible refine (peekOk_c b fb s (x.pos + i) 0 _ ((hX9.set1 _).set6 _).at_ (by omega) (by omega) (by omega) (by omega)).mono ?_); rintro e w' ⟨rfl, ⟨n4, rfl⟩⟩)
              | (go_at_call 77; (with_reducible refine (peek_c b fb s (x.pos + i) 0 _ (((hX9.set1 _).set6 _).drewN _).at_ (by omega) (by omega) (by omega) (by omega) (by omega)).mono ?_); rintro e w' ⟨rfl, ⟨n5, rfl⟩⟩)
              | (go_at_call 76; (with_reducible refine (charIsIdentPart_c _ _).mono ?_); rintro e w' ⟨rfl, hw'⟩; obtain rfl := hw'.symm)
              | (go_at_call 109; (with_reducible refine (panicf_c b fb s _ _ _ (((hX9.set1 _).set6 _).drewN _) hs hq0 hi1).mono ?_); rintro e w' ⟨⟨g, rfl⟩, hU2⟩))
            have hr : R = none := by rw [← HR.out, HI]; unfold numV; rw [HP.out]; rfl
            subst hr
            exact ⟨rfl, ⟨g, rfl⟩, ((((hU9.set 1 _).set 6 _).drewN _).two fb).trans hU2⟩
          | false =>
            have HP := Aside0.mk hpt
            go_wp2_with (first
              | (go_at_call 72; (with_reducible refine (skipN_c b fb s x.pos i _ (hat.drewN _) ((hL.drewN _).free 9) hp0 (by omega) hi0 (by omega)).mono ?_); rintro e w9 ⟨rfl, hw9⟩; have hX9 : Lx0 w9 b fb s { x with pos := x.pos + i } := (by rw [hw9]; exact (h.drewN _).set9 _); have hU9 : Ups b w w9 := (by rw [hw9]; exact ((Ups.refl b w).drewN _).set 9 _); have K1 := hX9.l.c1; have K6 := hX9.l.c6; have Y1 := hX9.l.free 1; have Y6 := hX9.l.free 6; clear hw9)
              | (go_at_call 75; (with_reducible refine (peekOk_c b fb s (x.pos + i) 0 _ ((hX9.set1 _).set6 _).at_ (by omega) (by omega) (by omega) (by omega)).mono ?_); rintro e w' ⟨rfl, ⟨n4, rfl⟩⟩)
              | (go_at_call 77; (with_reducible refine (peek_c b fb s (x.pos + i) 0 _ (((hX9.set1 _).set6 _).drewN _).at_ (by omega) (by omega) (by omega) (by omega) (by omega)).mono ?_); rintro e w' ⟨rfl, ⟨n5, rfl⟩⟩)
              | (go_at_call 76; (with_reducible refine (charIsIdentPart_c _ _).mono ?_); rintro e w' ⟨rfl, hw'⟩; obtain rfl := hw'.symm))
            have hr : R = some (.other, x.pos + i, x.dot) := by rw [← HR.out, HI]; unfold numV; rw [HP.out]; rfl
            subst hr
            go_end0
            exact ⟨rfl, ((hU9.set 1 _).set 6 _).drewN _, ⟨#[60, 105, 110, 116, 62]⟩, _, _, kd_lit _ rfl, (((hX9.set1 _).set6 _).drewN _).l⟩
        · have hd1 : decide (x.pos + i < (s.size : Int)) = false := decide_eq_false hlt
          go_wp2_with (first
            | (go_at_call 72; (with_reducible refine (skipN_c b fb s x.pos i _ (hat.drewN _) ((hL.drewN _).free 9) hp0 (by omega) hi0 (by omega)).mono ?_); rintro e w9 ⟨rfl, hw9⟩; have hX9 : Lx0 w9 b fb s { x with pos := x.pos + i } := (by rw [hw9]; exact (h.drewN _).set9 _); have hU9 : Ups b w w9 := (by rw [hw9]; exact ((Ups.refl b w).drewN _).set 9 _); have K1 := hX9.l.c1; have K6 := hX9.l.c6; have Y1 := hX9.l.free 1; have Y6 := hX9.l.free 6; clear hw9)
            | (go_at_call 75; (with_reducible refine (peekOk_c b fb s (x.pos + i) 0 _ ((hX9.set1 _).set6 _).at_ (by omega) (by omega) (by omega) (by omega)).mono ?_); rintro e w' ⟨rfl, ⟨n4, rfl⟩⟩))
          have hr : R = some (.other, x.pos + i, x.dot) := by rw [← HR.out, HI]; unfold numV; simp only []; rw [bt_far s (x.pos + i) (by omega)]; rfl
          subst hr
          go_end0
          exact ⟨rfl, ((hU9.set 1 _).set 6 _).drewN _, ⟨#[60, 105, 110, 116, 62]⟩, _, _, kd_lit _ rfl, (((hX9.set1 _).set6 _).drewN _).l⟩
      | false =>
        have hq0 : 0 ≤ x.pos + i := by omega
        by_cases hlt : x.pos + i < (s.size : Int)
        · have hd1 : decide (x.pos + i < (s.size : Int)) = true := decide_eq_true hlt
          cases hpt : isPart (bt s (x.pos + i)) with
          | true =>
            have HP := Aside0.mk hpt
            go_wp2_with (first
              | (go_at_call 72; (with_reducible refine (skipN_c b fb s x.pos i _ (hat.drewN _) ((hL.drewN _).free 9) hp0 (by omega) hi0 (by omega)).mono ?_); rintro e w9 ⟨rfl, hw9⟩; have hX9 : Lx0 w9 b fb s { x with pos := x.pos + i } := (by rw [hw9]; exact (h.drewN _).set9 _); have hU9 : Ups b w w9 := (by rw [hw9]; exact ((Ups.refl b w).drewN _).set 9 _); have K1 := hX9.l.c1; have K6 := hX9.l.c6; have Y1 := hX9.l.free 1; have Y6 := hX9.l.free 6; clear hw9)
              | (go_at_call 75; (with_reducible refine (peekOk_c b fb s (x.pos + i) 0 _ (hX9.set1 _).at_ (by omega) (by omega) (by omega) (by omega)).mono ?_); rintro e w' ⟨rfl, ⟨n4, rfl⟩⟩)
              | (go_at_call 77; (with_reducible refine (peek_c b fb s (x.pos + i) 0 _ ((hX9.set1 _).drewN _).at_ (by omega) (by omega) (by omega) (by omega) (by omega)).mono ?_); rintro e w' ⟨rfl, ⟨n5, rfl⟩⟩)
              | (go_at_call 76; (with_reducible refine (charIsIdentPart_c _ _).mono ?_); rintro e w' ⟨rfl, hw'⟩; obtain rfl := hw'.symm)
              | (go_at_call 109; (with_reducible refine (panicf_c b fb s _ _ _ ((hX9.set1 _).drewN _) hs hq0 hi1).mono ?_); rintro e w' ⟨⟨g, rfl⟩, hU2⟩))
            have hr : R = none := by rw [← HR.out, HI]; unfold numV; rw [HP.out]; rfl
            subst hr
            exact ⟨rfl, ⟨g, rfl⟩, (((hU9.set 1 _).drewN _).two fb).trans hU2⟩
          | false =>
            have HP := Aside0.mk hpt
            go_wp2_with (first
              | (go_at_call 72; (with_reducible refine (skipN_c b fb s x.pos i _ (hat.drewN _) ((hL.drewN _).free 9) hp0 (by omega) hi0 (by omega)).mono ?_); rintro e w9 ⟨rfl, hw9⟩; have hX9 : Lx0 w9 b fb s { x with pos := x.pos + i } := (by rw [hw9]; exact (h.drewN _).set9 _); have hU9 : Ups b w w9 := (by rw [hw9]; exact ((Ups.refl b w).drewN _).set 9 _); have K1 := hX9.l.c1; have K6 := hX9.l.c6; have Y1 := hX9.l.free 1; have Y6 := hX9.l.free 6; clear hw9)
              | (go_at_call 75; (with_reducible refine (peekOk_c b fb s (x.pos + i) 0 _ (hX9.set1 _).at_ (by omega) (by omega) (by omega) (by omega)).mono ?_); rintro e w' ⟨rfl, ⟨n4, rfl⟩⟩)
              | (go_at_call 77; (with_reducible refine (peek_c b fb s (x.pos + i) 0 _ ((hX9.set1 _).drewN _).at_ (by omega) (by omega) (by omega) (by omega) (by omega)).mono ?_); rintro e w' ⟨rfl, ⟨n5, rfl⟩⟩)
              | (go_at_call 76; (with_reducible refine (charIsIdentPart_c _ _).mono ?_); rintro e w' ⟨rfl, hw'⟩; obtain rfl := hw'.symm))
            have hr : R = some (.other, x.pos + i, x.dot) := by rw [← HR.out, HI]; unfold numV; rw [HP.out]; rfl
            subst hr
            go_end0
            exact ⟨rfl, (hU9.set 1 _).drewN _, ⟨#[60, 102, 108, 111, 97, 116, 62]⟩, _, _, kd_lit _ rfl, ((hX9.set1 _).drewN _).l⟩
        · have hd1 : decide (x.pos + i < (s.size : Int)) = false := decide_eq_false hlt
          go_wp2_with (first
            | (go_at_call 72; (with_reducible refine (skipN_c b fb s x.pos i _ (hat.drewN _) ((hL.drewN _).free 9) hp0 (by omega) hi0 (by omega)).mono ?_); rintro e w9 ⟨rfl, hw9⟩; have hX9 : Lx0 w9 b fb s { x with pos := x.pos + i } := (by rw [hw9]; exact (h.drewN _).set9 _); have hU9 : Ups b w w9 := (by rw [hw9]; exact ((Ups.refl b w).drewN _).set 9 _); have K1 := hX9.l.c1; have K6 := hX9.l.c6; have Y1 := hX9.l.free 1; have Y6 := hX9.l.free 6; clear hw9)
            | (go_at_call 75; (with_reducible refine (peekOk_c b fb s (x.pos + i) 0 _ (hX9.set1 _).at_ (by omega) (by omega) (by omega) (by omega)).mono ?_); rintro e w' ⟨rfl, ⟨n4, rfl⟩⟩))
          have hr : R = some (.other, x.pos + i, x.dot) := by rw [← HR.out, HI]; unfold numV; simp only []; rw [bt_far s (x.pos + i) (by omega)]; rfl
          subst hr
          go_end0
          exact ⟨rfl, (hU9.set 1 _).drewN _, ⟨#[60, 102, 108, 111, 97, 116, 62]⟩, _, _, kd_lit _ rfl, ((hX9.set1 _).drewN _).l⟩
end Go.Proofs.YtjepdlmcombmcaaGreatDoor.Lx
