/- The reference's numbers: what lNumber returns and writes. Conditions: the token lies in a block of its own; a digit or a dot stands at the place. -/
import Derived.Test.YtjepdlmcombmcaaGreatDoorRc
import Derived.Test.YtjepdlmcombmcaaGreatDoorGa
namespace Go.Proofs.YtjepdlmcombmcaaGreatDoor.Lx
open Go.RowKit Go.Proofs.YtjepdlmcombmcaaGreatDoorW.PrintWords

theorem kd_txt (l : List UInt8) {k : Kd} (h : kd l = k) : kd (⟨l.toArray⟩ : ByteArray).toList = k := by rw [ByteArray.toList_mk]; exact h
/-- What is left of a token while it is made. -/
def TK (g : Nat) (y : Tt) (w w' : World) : Prop := Ups g w w' ∧ ∃ K T B, kd K.toList = .other ∧ IsT w' g { y with kind := K, txt := T, base := B }
section
variable {g : Nat} {y : Tt} {w w' : World}
theorem TK.cells (h : TK g y w w') : (∃ K, w'.cell? ⟨g, 0, none⟩ = some (.string K)) ∧ (∃ N : Int, w'.cell? ⟨g, 4, none⟩ = some (.int .i64 N)) ∧ ∀ i, w'.frozen? ⟨g, i, none⟩ = false := by
  obtain ⟨_, K, T, B, _, hY⟩ := h
  exact ⟨⟨_, hY.c0⟩, ⟨_, hY.c4⟩, hY.free⟩
theorem TK.weak (h : TK g y w w') : ∃ K T B, IsT w' g { y with kind := K, txt := T, base := B } := by
  obtain ⟨_, K, T, B, _, hY⟩ := h
  exact ⟨K, T, B, hY⟩
theorem TK.float (h : TK g y w w') : TK g y w ((w'.setCell ⟨g, 0, none⟩ (.string ⟨#[60, 102, 108, 111, 97, 116, 62]⟩)).setCell ⟨g, 4, none⟩ (.int .i64 0)) := by
  obtain ⟨hU, K, T, B, _, hY⟩ := h
  exact ⟨(hU.set 0 _).set 4 _, _, _, _, kd_txt _ rfl, (hY.set0 _).set4 _⟩
theorem TK.int (hY : IsT w g y) (n : Int) : TK g y w ((w.setCell ⟨g, 0, none⟩ (.string ⟨#[60, 105, 110, 116, 62]⟩)).setCell ⟨g, 4, none⟩ (.int .i64 n)) :=
  ⟨((Ups.refl g w).set 0 _).set 4 _, _, _, _, kd_txt _ rfl, (hY.set0 _).set4 _⟩
end
/-- The number at p as a token. -/
def numW (s : ByteArray) (p : Int) : Option (Kd × Int) := match num s p with
  | none => none
  | some (_, e) => some (.other, e)
/-- The same behind the mantissa, which ends at E. -/
def numT (s : ByteArray) (E : Int) : Option (Kd × Int) :=
  if isE (bt s E) then (match expo s E with | none => none | some e => if isPart (bt s e) then none else some (.other, e))
  else if isPart (bt s E) then none else some (.other, E)
theorem numW_dec {s : ByteArray} {p : Int} (h : hexPre s p = false) : numW s p = numT s (mant s p) := by
  unfold numW numT num
  rw [h]
  cases h1 : isE (bt s (mant s p)) with
  | true =>
    simp only [Bool.false_eq_true, if_false, if_true]
    cases expo s (mant s p) with
    | none => rfl
    | some e =>
      cases h2 : isPart (bt s e) <;> simp [h2]
  | false => cases h2 : isPart (bt s (mant s p)) <;> simp
theorem numW_hex {s : ByteArray} {p : Int} (h : hexPre s p = true) : numW s p = if isPart (bt s (run isHex s (p + 2))) then none else some (.other, run isHex s (p + 2)) := by
  unfold numW num
  rw [h]
  cases h2 : isPart (bt s (run isHex s (p + 2))) <;> simp
theorem numT_plain {s : ByteArray} {E : Int} (h : isE (bt s E) = false) : numT s E = if isPart (bt s E) then none else some (.other, E) := by
  unfold numT
  rw [h]
  rfl
theorem numT_no {s : ByteArray} {E : Int} (h : isE (bt s E) = true) (h2 : expo s E = none) : numT s E = none := by
  unfold numT
  rw [h, h2]
  rfl
theorem numT_yes {s : ByteArray} {E e : Int} (h : isE (bt s E) = true) (h2 : expo s E = some e) : numT s E = if isPart (bt s e) then none else some (.other, e) := by
  unfold numT
  rw [h, h2]
  rfl
theorem expN {s : ByteArray} {E k : Int} (hk : (if bt s (E + 1) == 43 || bt s (E + 1) == 45 then E + 2 else E + 1) = k) (h : isDigit (bt s k) = false) : expo s E = none := by
  unfold expo
  rw [hk, h]
  rfl
theorem expY {s : ByteArray} {E k : Int} (hk : (if bt s (E + 1) == 43 || bt s (E + 1) == 45 then E + 2 else E + 1) = k) (h : isDigit (bt s k) = true) : expo s E = some (run isDigit s k) := by
  unfold expo
  rw [hk, h]
  rfl
theorem sgn_cs (s : ByteArray) (E : Int) : (bt s (E + 1) == 43) = true ∧ Aside0 ((if bt s (E + 1) == 43 || bt s (E + 1) == 45 then E + 2 else E + 1) = E + 1 + 1) ∨
    (bt s (E + 1) == 43) = false ∧ (bt s (E + 1) == 45) = true ∧ Aside0 ((if bt s (E + 1) == 43 || bt s (E + 1) == 45 then E + 2 else E + 1) = E + 1 + 1) ∨
    (bt s (E + 1) == 43) = false ∧ (bt s (E + 1) == 45) = false ∧ Aside0 ((if bt s (E + 1) == 43 || bt s (E + 1) == 45 then E + 2 else E + 1) = E + 1) := by
  have k21 : E + 1 + 1 = E + 2 := by omega
  cases h1 : (bt s (E + 1) == 43) with
  | true => exact .inl ⟨rfl, ⟨by rw [k21]; rfl⟩⟩
  | false =>
    cases h2 : (bt s (E + 1) == 45) with
    | true => exact .inr (.inl ⟨rfl, rfl, ⟨by rw [k21]; rfl⟩⟩)
    | false => exact .inr (.inr ⟨rfl, rfl, ⟨rfl⟩⟩)
theorem e_cs (c : Int) : (c == 101) = true ∧ Aside0 (isE c = true) ∨ (c == 101) = false ∧ (c == 69) = true ∧ Aside0 (isE c = true) ∨ (c == 101) = false ∧ (c == 69) = false ∧ Aside0 (isE c = false) := by
  unfold isE
  cases (c == 101) <;> cases (c == 69) <;> simp [Aside0.mk]
theorem hexVal_yes {c : Int} (h : isHex c = true) : 0 ≤ hexVal c := by
  unfold isHex at h
  unfold hexVal
  have h := of_decide_eq_true h
  (repeat' split) <;> omega
theorem hexVal_no {c : Int} (h : isHex c = false) : hexVal c < 0 := by
  unfold isHex at h
  unfold hexVal
  have h := of_decide_eq_false h
  (repeat' split) <;> omega
set_option maxRecDepth 100000 in
set_option maxHeartbeats 4000000 in
theorem lNumber_hex (s : ByteArray) (p : Int) (w : World) (g : Nat) (y : Tt) (hY : IsT w g y) (h0 : 0 ≤ p) (hs : (s.size : Int) ≤ 1000000) (hh : hexPre s p = true) :
    Calls Tryz.prog 41 #[.string s, .int .i64 p, .pointer (some ⟨g, 0, none⟩)] w (Tells g y (numW s p) w) := by
  obtain ⟨R, hR⟩ : ∃ R, numW s p = R := ⟨_, rfl⟩
  have HR : Aside0 ((if isPart (bt s (run isHex s (p + 2))) then none else some (.other, run isHex s (p + 2))) = R) := ⟨by rw [← numW_hex hh]; exact hR⟩
  rw [hR]
  clear hR
  have hK0 := hY.c0
  have hK4 := hY.c4
  have hZ := hY.free
  unfold hexPre at hh
  have h48 : (bt s p == 48) = true := by
    simp only [Bool.and_eq_true] at hh
    exact hh.1
  have hp1 : p + 1 < (s.size : Int) := by
    simp only [Bool.and_eq_true, Bool.or_eq_true, beq_iff_eq] at hh
    rcases hh.2 with h | h
    · exact bt_in h (by omega) (by omega)
    · exact bt_in h (by omega) (by omega)
  have w2 := iwrap (p + 2) (by omega) (by omega)
  have p20 : 0 ≤ p + 2 := by omega
  have hcs : (bt s (p + 1) == 120) = true ∧ (bt s (p + 1) == 88) = false ∨ (bt s (p + 1) == 120) = false ∧ (bt s (p + 1) == 88) = true := by
    simp only [Bool.and_eq_true, Bool.or_eq_true] at hh
    cases hx1 : (bt s (p + 1) == 120) with
    | true => exact .inl ⟨rfl, by rw [beq_iff_eq.1 hx1]; rfl⟩
    | false => exact .inr ⟨rfl, hh.2.resolve_left (by rw [hx1]; decide)⟩
  rcases hcs with ⟨hx1, hxx⟩ | ⟨hx1, hxx⟩
  all_goals
    go_enter Tryz.func41, Tryz.ntmps41
    go_wp2_with (first | (go_at_call 15; with_reducible refine same (starts2_c s 48 120 48 120 p _ rfl rfl (by decide) (by decide) h0 (by omega) hs) ?_) | (go_at_call 15; with_reducible refine same (starts2_c s 48 88 48 88 p _ rfl rfl (by decide) (by decide) h0 (by omega) hs) ?_) | (go_at_call 60; with_reducible refine same (specHex_c _ _ hb0 hb1) ?_) | (go_at_call 37; with_reducible refine same (specIdentPart_c _ _) ?_))
    go_loopg [8] (((s.size : Int) - (p + 2)).toNat + 1) (fun kq v8 wr => ∃ q : Int, v8 = .int .i64 q ∧ Aside0 (p + 2 ≤ q ∧ q ≤ (s.size : Int) ∧ run isHex s q = run isHex s (p + 2) ∧ ((s.size : Int) - q).toNat < kq) ∧ wr = w)
    case atStart => exact ⟨p + 2, rfl, ⟨Int.le_refl _, by omega, rfl, by omega⟩, rfl⟩
    case round =>
      obtain ⟨q, rfl, HA, hwr⟩ := hrel
      obtain rfl := hwr.symm
      have q0 := HA.out.1
      have qn : 0 ≤ q := by omega
      have q1 := HA.out.2.1
      have qw := iwrap (q + 1) (by omega) (by omega)
      by_cases hq : q < (s.size : Int)
      · have hd : decide (q < (s.size : Int)) = true := decide_eq_true hq
        have hx := bt_at s q
        have hb0 := (bt_range s q).1
        have hb1 : bt s q ≤ 255 := by have := (bt_range s q).2; omega
        cases hg : isHex (bt s q) with
        | true =>
          have HG := Aside0.mk hg
          have hv : decide (0 ≤ hexVal (bt s q)) = true := decide_eq_true (hexVal_yes hg)
          go_wp2_with (first | (go_at_call 60; with_reducible refine same (specHex_c _ _ hb0 hb1) ?_) | (go_at_call 37; with_reducible refine same (specIdentPart_c _ _) ?_))
          go_roundg (((s.size : Int) - (q + 1)).toNat + 1)
          case measure => have := HA.out.2.2.2; omega
          case rel => exact ⟨q + 1, rfl, ⟨by omega, by omega, by rw [← HA.out.2.2.1]; exact (run_step hq HG.out).symm, by omega⟩, rfl⟩
        | false =>
          have hv : decide (0 ≤ hexVal (bt s q)) = false := decide_eq_false (by have := hexVal_no hg; omega)
          have HQ : Aside0 (run isHex s (p + 2) = q) := ⟨by rw [← HA.out.2.2.1]; exact run_stop hg⟩
          cases hP : isPart (bt s q) with
          | true =>
            have hres : Aside0 (R = none) := ⟨by rw [← HR.out, HQ.out, hP]; rfl⟩
            go_wp2_with (first | (go_at_call 60; with_reducible refine same (specHex_c _ _ hb0 hb1) ?_) | (go_at_call 37; with_reducible refine same (specIdentPart_c _ _) ?_))
            (try simp only [Exit.inBlock, Exit.then]); refine bodyPost_ret (results_tmp2 rfl _ _ _) rfl ?_
            rw [hres.out]
            exact ⟨⟨_, rfl⟩, (TK.int hY 16).1, (TK.int hY 16).weak⟩
          | false =>
            have hres : Aside0 (R = some (.other, q)) := ⟨by rw [← HR.out, HQ.out, hP]; rfl⟩
            go_wp2_with (first | (go_at_call 60; with_reducible refine same (specHex_c _ _ hb0 hb1) ?_) | (go_at_call 37; with_reducible refine same (specIdentPart_c _ _) ?_))
            (try simp only [Exit.inBlock, Exit.then]); refine bodyPost_ret (results_tmp2 rfl _ _ _) rfl ?_
            rw [hres.out]
            exact ⟨rfl, (TK.int hY 16).1, (TK.int hY 16).2⟩
      · have hd : decide (q < (s.size : Int)) = false := decide_eq_false hq
        have hres : Aside0 (R = some (.other, q)) := ⟨by rw [← HR.out, ← HA.out.2.2.1, run_end (by omega), bt_far s q (by omega)]; rfl⟩
        go_wp2_with (first | (go_at_call 60; with_reducible refine same (specHex_c _ _ hb0 hb1) ?_) | (go_at_call 37; with_reducible refine same (specIdentPart_c _ _) ?_))
        (try simp only [Exit.inBlock, Exit.then]); refine bodyPost_ret (results_tmp2 rfl _ _ _) rfl ?_
        rw [hres.out]
        exact ⟨rfl, (TK.int hY 16).1, (TK.int hY 16).2⟩
set_option maxRecDepth 100000 in
set_option maxHeartbeats 8000000 in
theorem lNumber_dec (s : ByteArray) (p : Int) (w : World) (g : Nat) (y : Tt) (hY : IsT w g y) (h0 : 0 ≤ p) (h1 : p < (s.size : Int)) (hs : (s.size : Int) ≤ 1000000) (hh : hexPre s p = false) :
    Calls Tryz.prog 41 #[.string s, .int .i64 p, .pointer (some ⟨g, 0, none⟩)] w (Tells g y (numW s p) w) := by
  obtain ⟨R, hR⟩ : ∃ R, numW s p = R := ⟨_, rfl⟩
  have HR : Aside0 (numT s (mant s p) = R) := ⟨by rw [← numW_dec hh]; exact hR⟩
  rw [hR]
  clear hR
  have hK0 := hY.c0
  have hK4 := hY.c4
  have hZ := hY.free
  unfold hexPre at hh
  have hxa : (bt s p == 48 && bt s (p + 1) == 120) = false := by
    revert hh
    cases (bt s p == 48) <;> cases (bt s (p + 1) == 120) <;> simp
  have hxb : (bt s p == 48 && bt s (p + 1) == 88) = false := by
    revert hh
    cases (bt s p == 48) <;> cases (bt s (p + 1) == 88) <;> simp
  clear hh
  go_enter Tryz.func41, Tryz.ntmps41
  go_wp2_with (first | (go_at_call 40; with_reducible refine same (specDigit_c _ _) ?_) | (go_at_call 37; with_reducible refine same (specIdentPart_c _ _) ?_) | (go_at_call 15; with_reducible refine same (starts2_c s 48 120 48 120 p _ rfl rfl (by decide) (by decide) h0 (by omega) hs) ?_) | (go_at_call 15; with_reducible refine same (starts2_c s 48 88 48 88 p _ rfl rfl (by decide) (by decide) h0 (by omega) hs) ?_))
  go_loopg [8] (((s.size : Int) - p).toNat + 1) (fun kq v8 wr => ∃ q : Int, v8 = .int .i64 q ∧ Aside0 (p ≤ q ∧ q ≤ (s.size : Int) ∧ run isDigit s q = run isDigit s p ∧ ((s.size : Int) - q).toNat < kq) ∧ Aside0 (TK g y w wr))
  case atStart => exact ⟨p, rfl, ⟨Int.le_refl _, by omega, rfl, by omega⟩, ⟨TK.int hY 10⟩⟩
  case round =>
    clear hK0 hK4 hZ
    obtain ⟨q, rfl, HA, HTr⟩ := hrel
    obtain ⟨⟨K0, hK0⟩, ⟨N4, hK4⟩, hZ⟩ := HTr.out.cells
    have q0 := HA.out.1
    have qn : 0 ≤ q := by omega
    have q1 := HA.out.2.1
    have qw := iwrap (q + 1) (by omega) (by omega)
    have qn1 : 0 ≤ q + 1 := by omega
    by_cases hq : q < (s.size : Int)
    · have hd : decide (q < (s.size : Int)) = true := decide_eq_true hq
      have hx := bt_at s q
      cases hg : isDigit (bt s q) with
      | true =>
        have HG := Aside0.mk hg
        go_wp2_with (first | (go_at_call 40; with_reducible refine same (specDigit_c _ _) ?_) | (go_at_call 37; with_reducible refine same (specIdentPart_c _ _) ?_))
        go_roundg (((s.size : Int) - (q + 1)).toNat + 1)
        case measure => have := HA.out.2.2.2; omega
        case rel => exact ⟨q + 1, rfl, ⟨by omega, by omega, by rw [← HA.out.2.2.1]; exact (run_step hq HG.out).symm, by omega⟩, HTr⟩
      | false =>
        have HQ : Aside0 (run isDigit s p = q) := ⟨by rw [← HA.out.2.2.1]; exact run_stop hg⟩
        cases h46 : (bt s q == 46) with
        | false =>
          have HRT : Aside0 (numT s q = R) := ⟨by rw [← HR.out]; unfold mant dotted; rw [HQ.out, h46]; rfl⟩
          rcases e_cs (bt s (q)) with ⟨h101, HE⟩ | ⟨h101, h69, HE⟩ | ⟨h101, h69, HE⟩
          rotate_left 2
          · have hxF := bt_at s (q)
            cases hP : isPart (bt s (q)) with
            | true =>
              have hres : Aside0 (R = none) := ⟨by rw [← HRT.out, numT_plain HE.out]; rw [hP]; rfl⟩
              go_wp2_with (first | (go_at_call 40; with_reducible refine same (specDigit_c _ _) ?_) | (go_at_call 37; with_reducible refine same (specIdentPart_c _ _) ?_))
              (try simp only [Exit.inBlock, Exit.then]); refine bodyPost_ret (results_tmp2 rfl _ _ _) rfl ?_
              rw [hres.out]
              exact ⟨⟨_, rfl⟩, HTr.out.1, HTr.out.weak⟩
            | false =>
              have hres : Aside0 (R = some (.other, q)) := ⟨by rw [← HRT.out, numT_plain HE.out]; rw [hP]; rfl⟩
              go_wp2_with (first | (go_at_call 40; with_reducible refine same (specDigit_c _ _) ?_) | (go_at_call 37; with_reducible refine same (specIdentPart_c _ _) ?_))
              (try simp only [Exit.inBlock, Exit.then]); refine bodyPost_ret (results_tmp2 rfl _ _ _) rfl ?_
              rw [hres.out]
              exact ⟨rfl, HTr.out.1, HTr.out.2⟩
          all_goals
            have k1w := iwrap (q + 1) (by omega) (by omega)
            have k2w := iwrap (q + 1 + 1) (by omega) (by omega)
            have k10 : 0 ≤ q + 1 := by omega
            have k20 : 0 ≤ q + 1 + 1 := by omega
            by_cases hk1 : q + 1 < (s.size : Int)
            · have hdk1 : decide (q + 1 < (s.size : Int)) = true := decide_eq_true hk1
              have hxk1 := bt_at s (q + 1)
              rcases sgn_cs s (q) with ⟨h43, HKK⟩ | ⟨h43, h45, HKK⟩ | ⟨h43, h45, HKK⟩
              rotate_left 2
              · by_cases hk : q + 1 < (s.size : Int)
                · have hdk : decide (q + 1 < (s.size : Int)) = true := decide_eq_true hk
                  have hek : (q + 1 == (s.size : Int)) = false := beqf (by omega)
                  have hxk := bt_at s (q + 1)
                  cases hg : isDigit (bt s (q + 1)) with
                  | false =>
                    have hres : Aside0 (R = none) := ⟨by rw [← HRT.out]; exact numT_no HE.out (expN HKK.out hg)⟩
                    go_wp2_with (first | (go_at_call 40; with_reducible refine same (specDigit_c _ _) ?_) | (go_at_call 37; with_reducible refine same (specIdentPart_c _ _) ?_))
                    (try simp only [Exit.inBlock, Exit.then]); refine bodyPost_ret (results_tmp2 rfl _ _ _) rfl ?_
                    rw [hres.out]
                    exact ⟨⟨_, rfl⟩, HTr.out.1, HTr.out.weak⟩
                  | true =>
                    have HQ : Aside0 (expo s (q) = some (run isDigit s (q + 1))) := ⟨expY HKK.out hg⟩
                    have HGK := Aside0.mk hg
                    go_wp2_with (first | (go_at_call 40; with_reducible refine same (specDigit_c _ _) ?_) | (go_at_call 37; with_reducible refine same (specIdentPart_c _ _) ?_))
                    clear hg
                    go_loopg [9] (((s.size : Int) - (q + 1)).toNat + 1) (fun kq v9 wq => ∃ z : Int, v9 = .int .i64 z ∧ Aside0 (q + 1 ≤ z ∧ z ≤ (s.size : Int) ∧ run isDigit s z = run isDigit s (q + 1) ∧ ((s.size : Int) - z).toNat < kq) ∧ Aside0 (TK g y w wq))
                    case atStart => exact ⟨q + 1, rfl, ⟨by omega, by omega, rfl, by omega⟩, ⟨HTr.out.float⟩⟩
                    case round =>
                      obtain ⟨z, rfl, HA2, HTq⟩ := hrel
                      obtain ⟨⟨Kz, hKz⟩, ⟨Nz, hNz⟩, hZz⟩ := HTq.out.cells
                      have q20 := HA2.out.1
                      have q2n : 0 ≤ z := by omega
                      have q21 := HA2.out.2.1
                      have q2w := iwrap (z + 1) (by omega) (by omega)
                      by_cases hq2 : z < (s.size : Int)
                      · have hdq2 : decide (z < (s.size : Int)) = true := decide_eq_true hq2
                        have hxq2 := bt_at s z
                        cases hg2 : isDigit (bt s z) with
                        | true =>
                          have HG2 := Aside0.mk hg2
                          go_wp2_with (first | (go_at_call 40; with_reducible refine same (specDigit_c _ _) ?_) | (go_at_call 37; with_reducible refine same (specIdentPart_c _ _) ?_))
                          go_roundg (((s.size : Int) - (z + 1)).toNat + 1)
                          case measure => have := HA2.out.2.2.2; omega
                          case rel => exact ⟨z + 1, rfl, ⟨by omega, by omega, by rw [← HA2.out.2.2.1]; exact (run_step hq2 HG2.out).symm, by omega⟩, HTq⟩
                        | false =>
                          have HG2 : Aside0 (numT s (q) = if isPart (bt s z) then none else some (.other, z)) := ⟨numT_yes HE.out (by rw [HQ.out, ← HA2.out.2.2.1, run_stop hg2])⟩
                          have hxF := bt_at s (z)
                          cases hP : isPart (bt s (z)) with
                          | true =>
                            have hres : Aside0 (R = none) := ⟨by rw [← HRT.out, HG2.out]; rw [hP]; rfl⟩
                            go_wp2_with (first | (go_at_call 40; with_reducible refine same (specDigit_c _ _) ?_) | (go_at_call 37; with_reducible refine same (specIdentPart_c _ _) ?_))
                            (try simp only [Exit.inBlock, Exit.then]); refine bodyPost_ret (results_tmp2 rfl _ _ _) rfl ?_
                            rw [hres.out]
                            exact ⟨⟨_, rfl⟩, HTq.out.1, HTq.out.weak⟩
                          | false =>
                            have hres : Aside0 (R = some (.other, z)) := ⟨by rw [← HRT.out, HG2.out]; rw [hP]; rfl⟩
                            go_wp2_with (first | (go_at_call 40; with_reducible refine same (specDigit_c _ _) ?_) | (go_at_call 37; with_reducible refine same (specIdentPart_c _ _) ?_))
                            (try simp only [Exit.inBlock, Exit.then]); refine bodyPost_ret (results_tmp2 rfl _ _ _) rfl ?_
                            rw [hres.out]
                            exact ⟨rfl, HTq.out.1, HTq.out.2⟩
                      · have hdq2 : decide (z < (s.size : Int)) = false := decide_eq_false hq2
                        have HG2 : Aside0 (numT s (q) = if isPart (bt s z) then none else some (.other, z)) := ⟨numT_yes HE.out (by rw [HQ.out, ← HA2.out.2.2.1, run_end (by omega)])⟩
                        have hres : Aside0 (R = some (.other, z)) := ⟨by rw [← HRT.out, HG2.out]; rw [bt_far s _ (by omega)]; rfl⟩
                        go_wp2_with (first | (go_at_call 40; with_reducible refine same (specDigit_c _ _) ?_) | (go_at_call 37; with_reducible refine same (specIdentPart_c _ _) ?_))
                        (try simp only [Exit.inBlock, Exit.then]); refine bodyPost_ret (results_tmp2 rfl _ _ _) rfl ?_
                        rw [hres.out]
                        exact ⟨rfl, HTq.out.1, HTq.out.2⟩
                · have hdk : decide (q + 1 < (s.size : Int)) = false := decide_eq_false hk
                  have hek : (q + 1 == (s.size : Int)) = true := beq_iff_eq.2 (by omega)
                  have hres : Aside0 (R = none) := ⟨by rw [← HRT.out]; exact numT_no HE.out (expN HKK.out (by rw [bt_far s _ (by omega)]; rfl))⟩
                  go_wp2_with (first | (go_at_call 40; with_reducible refine same (specDigit_c _ _) ?_) | (go_at_call 37; with_reducible refine same (specIdentPart_c _ _) ?_))
                  (try simp only [Exit.inBlock, Exit.then]); refine bodyPost_ret (results_tmp2 rfl _ _ _) rfl ?_
                  rw [hres.out]
                  exact ⟨⟨_, rfl⟩, HTr.out.1, HTr.out.weak⟩
              all_goals
                by_cases hk : q + 1 + 1 < (s.size : Int)
                · have hdk : decide (q + 1 + 1 < (s.size : Int)) = true := decide_eq_true hk
                  have hek : (q + 1 + 1 == (s.size : Int)) = false := beqf (by omega)
                  have hxk := bt_at s (q + 1 + 1)
                  cases hg : isDigit (bt s (q + 1 + 1)) with
                  | false =>
                    have hres : Aside0 (R = none) := ⟨by rw [← HRT.out]; exact numT_no HE.out (expN HKK.out hg)⟩
                    go_wp2_with (first | (go_at_call 40; with_reducible refine same (specDigit_c _ _) ?_) | (go_at_call 37; with_reducible refine same (specIdentPart_c _ _) ?_))
                    (try simp only [Exit.inBlock, Exit.then]); refine bodyPost_ret (results_tmp2 rfl _ _ _) rfl ?_
                    rw [hres.out]
                    exact ⟨⟨_, rfl⟩, HTr.out.1, HTr.out.weak⟩
                  | true =>
                    have HQ : Aside0 (expo s (q) = some (run isDigit s (q + 1 + 1))) := ⟨expY HKK.out hg⟩
                    have HGK := Aside0.mk hg
                    go_wp2_with (first | (go_at_call 40; with_reducible refine same (specDigit_c _ _) ?_) | (go_at_call 37; with_reducible refine same (specIdentPart_c _ _) ?_))
                    clear hg
                    go_loopg [9] (((s.size : Int) - (q + 1 + 1)).toNat + 1) (fun kq v9 wq => ∃ z : Int, v9 = .int .i64 z ∧ Aside0 (q + 1 + 1 ≤ z ∧ z ≤ (s.size : Int) ∧ run isDigit s z = run isDigit s (q + 1 + 1) ∧ ((s.size : Int) - z).toNat < kq) ∧ Aside0 (TK g y w wq))
                    case atStart => exact ⟨q + 1 + 1, rfl, ⟨by omega, by omega, rfl, by omega⟩, ⟨HTr.out.float⟩⟩
                    case round =>
                      obtain ⟨z, rfl, HA2, HTq⟩ := hrel
                      obtain ⟨⟨Kz, hKz⟩, ⟨Nz, hNz⟩, hZz⟩ := HTq.out.cells
                      have q20 := HA2.out.1
                      have q2n : 0 ≤ z := by omega
                      have q21 := HA2.out.2.1
                      have q2w := iwrap (z + 1) (by omega) (by omega)
                      by_cases hq2 : z < (s.size : Int)
                      · have hdq2 : decide (z < (s.size : Int)) = true := decide_eq_true hq2
                        have hxq2 := bt_at s z
                        cases hg2 : isDigit (bt s z) with
                        | true =>
                          have HG2 := Aside0.mk hg2
                          go_wp2_with (first | (go_at_call 40; with_reducible refine same (specDigit_c _ _) ?_) | (go_at_call 37; with_reducible refine same (specIdentPart_c _ _) ?_))
                          go_roundg (((s.size : Int) - (z + 1)).toNat + 1)
                          case measure => have := HA2.out.2.2.2; omega
                          case rel => exact ⟨z + 1, rfl, ⟨by omega, by omega, by rw [← HA2.out.2.2.1]; exact (run_step hq2 HG2.out).symm, by omega⟩, HTq⟩
                        | false =>
                          have HG2 : Aside0 (numT s (q) = if isPart (bt s z) then none else some (.other, z)) := ⟨numT_yes HE.out (by rw [HQ.out, ← HA2.out.2.2.1, run_stop hg2])⟩
                          have hxF := bt_at s (z)
                          cases hP : isPart (bt s (z)) with
                          | true =>
                            have hres : Aside0 (R = none) := ⟨by rw [← HRT.out, HG2.out]; rw [hP]; rfl⟩
                            go_wp2_with (first | (go_at_call 40; with_reducible refine same (specDigit_c _ _) ?_) | (go_at_call 37; with_reducible refine same (specIdentPart_c _ _) ?_))
                            (try simp only [Exit.inBlock, Exit.then]); refine bodyPost_ret (results_tmp2 rfl _ _ _) rfl ?_
                            rw [hres.out]
                            exact ⟨⟨_, rfl⟩, HTq.out.1, HTq.out.weak⟩
                          | false =>
                            have hres : Aside0 (R = some (.other, z)) := ⟨by rw [← HRT.out, HG2.out]; rw [hP]; rfl⟩
                            go_wp2_with (first | (go_at_call 40; with_reducible refine same (specDigit_c _ _) ?_) | (go_at_call 37; with_reducible refine same (specIdentPart_c _ _) ?_))
                            (try simp only [Exit.inBlock, Exit.then]); refine bodyPost_ret (results_tmp2 rfl _ _ _) rfl ?_
                            rw [hres.out]
                            exact ⟨rfl, HTq.out.1, HTq.out.2⟩
                      · have hdq2 : decide (z < (s.size : Int)) = false := decide_eq_false hq2
                        have HG2 : Aside0 (numT s (q) = if isPart (bt s z) then none else some (.other, z)) := ⟨numT_yes HE.out (by rw [HQ.out, ← HA2.out.2.2.1, run_end (by omega)])⟩
                        have hres : Aside0 (R = some (.other, z)) := ⟨by rw [← HRT.out, HG2.out]; rw [bt_far s _ (by omega)]; rfl⟩
                        go_wp2_with (first | (go_at_call 40; with_reducible refine same (specDigit_c _ _) ?_) | (go_at_call 37; with_reducible refine same (specIdentPart_c _ _) ?_))
                        (try simp only [Exit.inBlock, Exit.then]); refine bodyPost_ret (results_tmp2 rfl _ _ _) rfl ?_
                        rw [hres.out]
                        exact ⟨rfl, HTq.out.1, HTq.out.2⟩
                · have hdk : decide (q + 1 + 1 < (s.size : Int)) = false := decide_eq_false hk
                  have hek : (q + 1 + 1 == (s.size : Int)) = true := beq_iff_eq.2 (by omega)
                  have hres : Aside0 (R = none) := ⟨by rw [← HRT.out]; exact numT_no HE.out (expN HKK.out (by rw [bt_far s _ (by omega)]; rfl))⟩
                  go_wp2_with (first | (go_at_call 40; with_reducible refine same (specDigit_c _ _) ?_) | (go_at_call 37; with_reducible refine same (specIdentPart_c _ _) ?_))
                  (try simp only [Exit.inBlock, Exit.then]); refine bodyPost_ret (results_tmp2 rfl _ _ _) rfl ?_
                  rw [hres.out]
                  exact ⟨⟨_, rfl⟩, HTr.out.1, HTr.out.weak⟩
            · have hdk1 : decide (q + 1 < (s.size : Int)) = false := decide_eq_false hk1
              have hek1 : (q + 1 == (s.size : Int)) = true := beq_iff_eq.2 (by omega)
              have hz1 : bt s (q + 1) = 0 := bt_far s _ (by omega)
              have HKK : Aside0 ((if bt s (q + 1) == 43 || bt s (q + 1) == 45 then q + 2 else q + 1) = q + 1) := ⟨by rw [hz1]; rfl⟩
              have HZ1 := Aside0.mk hz1
              clear hz1
              have hres : Aside0 (R = none) := ⟨by rw [← HRT.out]; exact numT_no HE.out (expN HKK.out (by rw [HZ1.out]; rfl))⟩
              go_wp2_with (first | (go_at_call 40; with_reducible refine same (specDigit_c _ _) ?_) | (go_at_call 37; with_reducible refine same (specIdentPart_c _ _) ?_))
              (try simp only [Exit.inBlock, Exit.then]); refine bodyPost_ret (results_tmp2 rfl _ _ _) rfl ?_
              rw [hres.out]
              exact ⟨⟨_, rfl⟩, HTr.out.1, HTr.out.weak⟩
        | true =>
          have HM : Aside0 (mant s p = run isDigit s (q + 1)) := ⟨by unfold mant dotted; rw [HQ.out, h46]; rfl⟩
          go_wp2_with (first | (go_at_call 40; with_reducible refine same (specDigit_c _ _) ?_) | (go_at_call 37; with_reducible refine same (specIdentPart_c _ _) ?_))
          go_loopg [8] (((s.size : Int) - (q + 1)).toNat + 1) (fun kq v8 wq => ∃ r : Int, v8 = .int .i64 r ∧ Aside0 (q + 1 ≤ r ∧ r ≤ (s.size : Int) ∧ run isDigit s r = run isDigit s (q + 1) ∧ ((s.size : Int) - r).toNat < kq) ∧ Aside0 (TK g y w wq))
          case atStart => exact ⟨q + 1, rfl, ⟨Int.le_refl _, by omega, rfl, by omega⟩, ⟨HTr.out.float⟩⟩
          case round =>
            clear hK0 hK4 hZ
            obtain ⟨r, rfl, HA3, HT3⟩ := hrel
            obtain ⟨⟨K3, hK3⟩, ⟨N3, hN3⟩, hZ3⟩ := HT3.out.cells
            have r0 := HA3.out.1
            have rn : 0 ≤ r := by omega
            have r1 := HA3.out.2.1
            have rw1 := iwrap (r + 1) (by omega) (by omega)
            have rn1 : 0 ≤ r + 1 := by omega
            by_cases hr : r < (s.size : Int)
            · have hdr : decide (r < (s.size : Int)) = true := decide_eq_true hr
              have hxr := bt_at s r
              cases hgr : isDigit (bt s r) with
              | true =>
                have HGR := Aside0.mk hgr
                go_wp2_with (first | (go_at_call 40; with_reducible refine same (specDigit_c _ _) ?_) | (go_at_call 37; with_reducible refine same (specIdentPart_c _ _) ?_))
                go_roundg (((s.size : Int) - (r + 1)).toNat + 1)
                case measure => have := HA3.out.2.2.2; omega
                case rel => exact ⟨r + 1, rfl, ⟨by omega, by omega, by rw [← HA3.out.2.2.1]; exact (run_step hr HGR.out).symm, by omega⟩, HT3⟩
              | false =>
                have HRT : Aside0 (numT s r = R) := ⟨by rw [← HR.out, HM.out, ← HA3.out.2.2.1, run_stop hgr]⟩
                rcases e_cs (bt s (r)) with ⟨h101, HE⟩ | ⟨h101, h69, HE⟩ | ⟨h101, h69, HE⟩
                rotate_left 2
                · have hxF := bt_at s (r)
                  cases hP : isPart (bt s (r)) with
                  | true =>
                    have hres : Aside0 (R = none) := ⟨by rw [← HRT.out, numT_plain HE.out]; rw [hP]; rfl⟩
                    go_wp2_with (first | (go_at_call 40; with_reducible refine same (specDigit_c _ _) ?_) | (go_at_call 37; with_reducible refine same (specIdentPart_c _ _) ?_))
                    (try simp only [Exit.inBlock, Exit.then]); refine bodyPost_ret (results_tmp2 rfl _ _ _) rfl ?_
                    rw [hres.out]
                    exact ⟨⟨_, rfl⟩, HT3.out.1, HT3.out.weak⟩
                  | false =>
                    have hres : Aside0 (R = some (.other, r)) := ⟨by rw [← HRT.out, numT_plain HE.out]; rw [hP]; rfl⟩
                    go_wp2_with (first | (go_at_call 40; with_reducible refine same (specDigit_c _ _) ?_) | (go_at_call 37; with_reducible refine same (specIdentPart_c _ _) ?_))
                    (try simp only [Exit.inBlock, Exit.then]); refine bodyPost_ret (results_tmp2 rfl _ _ _) rfl ?_
                    rw [hres.out]
                    exact ⟨rfl, HT3.out.1, HT3.out.2⟩
                all_goals
                  have k1w := iwrap (r + 1) (by omega) (by omega)
                  have k2w := iwrap (r + 1 + 1) (by omega) (by omega)
                  have k10 : 0 ≤ r + 1 := by omega
                  have k20 : 0 ≤ r + 1 + 1 := by omega
                  by_cases hk1 : r + 1 < (s.size : Int)
                  · have hdk1 : decide (r + 1 < (s.size : Int)) = true := decide_eq_true hk1
                    have hxk1 := bt_at s (r + 1)
                    rcases sgn_cs s (r) with ⟨h43, HKK⟩ | ⟨h43, h45, HKK⟩ | ⟨h43, h45, HKK⟩
                    rotate_left 2
                    · by_cases hk : r + 1 < (s.size : Int)
                      · have hdk : decide (r + 1 < (s.size : Int)) = true := decide_eq_true hk
                        have hek : (r + 1 == (s.size : Int)) = false := beqf (by omega)
                        have hxk := bt_at s (r + 1)
                        cases hg : isDigit (bt s (r + 1)) with
                        | false =>
                          have hres : Aside0 (R = none) := ⟨by rw [← HRT.out]; exact numT_no HE.out (expN HKK.out hg)⟩
                          go_wp2_with (first | (go_at_call 40; with_reducible refine same (specDigit_c _ _) ?_) | (go_at_call 37; with_reducible refine same (specIdentPart_c _ _) ?_))
                          (try simp only [Exit.inBlock, Exit.then]); refine bodyPost_ret (results_tmp2 rfl _ _ _) rfl ?_
                          rw [hres.out]
                          exact ⟨⟨_, rfl⟩, HT3.out.1, HT3.out.weak⟩
                        | true =>
                          have HQ : Aside0 (expo s (r) = some (run isDigit s (r + 1))) := ⟨expY HKK.out hg⟩
                          have HGK := Aside0.mk hg
                          go_wp2_with (first | (go_at_call 40; with_reducible refine same (specDigit_c _ _) ?_) | (go_at_call 37; with_reducible refine same (specIdentPart_c _ _) ?_))
                          clear hg
                          go_loopg [9] (((s.size : Int) - (r + 1)).toNat + 1) (fun kq v9 wq => ∃ z : Int, v9 = .int .i64 z ∧ Aside0 (r + 1 ≤ z ∧ z ≤ (s.size : Int) ∧ run isDigit s z = run isDigit s (r + 1) ∧ ((s.size : Int) - z).toNat < kq) ∧ Aside0 (TK g y w wq))
                          case atStart => exact ⟨r + 1, rfl, ⟨by omega, by omega, rfl, by omega⟩, ⟨HT3.out.float⟩⟩
                          case round =>
                            obtain ⟨z, rfl, HA2, HTq⟩ := hrel
                            obtain ⟨⟨Kz, hKz⟩, ⟨Nz, hNz⟩, hZz⟩ := HTq.out.cells
                            have q20 := HA2.out.1
                            have q2n : 0 ≤ z := by omega
                            have q21 := HA2.out.2.1
                            have q2w := iwrap (z + 1) (by omega) (by omega)
                            by_cases hq2 : z < (s.size : Int)
                            · have hdq2 : decide (z < (s.size : Int)) = true := decide_eq_true hq2
                              have hxq2 := bt_at s z
                              cases hg2 : isDigit (bt s z) with
                              | true =>
                                have HG2 := Aside0.mk hg2
                                go_wp2_with (first | (go_at_call 40; with_reducible refine same (specDigit_c _ _) ?_) | (go_at_call 37; with_reducible refine same (specIdentPart_c _ _) ?_))
                                go_roundg (((s.size : Int) - (z + 1)).toNat + 1)
                                case measure => have := HA2.out.2.2.2; omega
                                case rel => exact ⟨z + 1, rfl, ⟨by omega, by omega, by rw [← HA2.out.2.2.1]; exact (run_step hq2 HG2.out).symm, by omega⟩, HTq⟩
                              | false =>
                                have HG2 : Aside0 (numT s (r) = if isPart (bt s z) then none else some (.other, z)) := ⟨numT_yes HE.out (by rw [HQ.out, ← HA2.out.2.2.1, run_stop hg2])⟩
                                have hxF := bt_at s (z)
                                cases hP : isPart (bt s (z)) with
                                | true =>
                                  have hres : Aside0 (R = none) := ⟨by rw [← HRT.out, HG2.out]; rw [hP]; rfl⟩
                                  go_wp2_with (first | (go_at_call 40; with_reducible refine same (specDigit_c _ _) ?_) | (go_at_call 37; with_reducible refine same (specIdentPart_c _ _) ?_))
                                  (try simp only [Exit.inBlock, Exit.then]); refine bodyPost_ret (results_tmp2 rfl _ _ _) rfl ?_
                                  rw [hres.out]
                                  exact ⟨⟨_, rfl⟩, HTq.out.1, HTq.out.weak⟩
                                | false =>
                                  have hres : Aside0 (R = some (.other, z)) := ⟨by rw [← HRT.out, HG2.out]; rw [hP]; rfl⟩
                                  go_wp2_with (first | (go_at_call 40; with_reducible refine same (specDigit_c _ _) ?_) | (go_at_call 37; with_reducible refine same (specIdentPart_c _ _) ?_))
                                  (try simp only [Exit.inBlock, Exit.then]); refine bodyPost_ret (results_tmp2 rfl _ _ _) rfl ?_
                                  rw [hres.out]
                                  exact ⟨rfl, HTq.out.1, HTq.out.2⟩
                            · have hdq2 : decide (z < (s.size : Int)) = false := decide_eq_false hq2
                              have HG2 : Aside0 (numT s (r) = if isPart (bt s z) then none else some (.other, z)) := ⟨numT_yes HE.out (by rw [HQ.out, ← HA2.out.2.2.1, run_end (by omega)])⟩
                              have hres : Aside0 (R = some (.other, z)) := ⟨by rw [← HRT.out, HG2.out]; rw [bt_far s _ (by omega)]; rfl⟩
                              go_wp2_with (first | (go_at_call 40; with_reducible refine same (specDigit_c _ _) ?_) | (go_at_call 37; with_reducible refine same (specIdentPart_c _ _) ?_))
                              (try simp only [Exit.inBlock, Exit.then]); refine bodyPost_ret (results_tmp2 rfl _ _ _) rfl ?_
                              rw [hres.out]
                              exact ⟨rfl, HTq.out.1, HTq.out.2⟩
                      · have hdk : decide (r + 1 < (s.size : Int)) = false := decide_eq_false hk
                        have hek : (r + 1 == (s.size : Int)) = true := beq_iff_eq.2 (by omega)
                        have hres : Aside0 (R = none) := ⟨by rw [← HRT.out]; exact numT_no HE.out (expN HKK.out (by rw [bt_far s _ (by omega)]; rfl))⟩
                        go_wp2_with (first | (go_at_call 40; with_reducible refine same (specDigit_c _ _) ?_) | (go_at_call 37; with_reducible refine same (specIdentPart_c _ _) ?_))
                        (try simp only [Exit.inBlock, Exit.then]); refine bodyPost_ret (results_tmp2 rfl _ _ _) rfl ?_
                        rw [hres.out]
                        exact ⟨⟨_, rfl⟩, HT3.out.1, HT3.out.weak⟩
                    all_goals
                      by_cases hk : r + 1 + 1 < (s.size : Int)
                      · have hdk : decide (r + 1 + 1 < (s.size : Int)) = true := decide_eq_true hk
                        have hek : (r + 1 + 1 == (s.size : Int)) = false := beqf (by omega)
                        have hxk := bt_at s (r + 1 + 1)
                        cases hg : isDigit (bt s (r + 1 + 1)) with
                        | false =>
                          have hres : Aside0 (R = none) := ⟨by rw [← HRT.out]; exact numT_no HE.out (expN HKK.out hg)⟩
                          go_wp2_with (first | (go_at_call 40; with_reducible refine same (specDigit_c _ _) ?_) | (go_at_call 37; with_reducible refine same (specIdentPart_c _ _) ?_))
                          (try simp only [Exit.inBlock, Exit.then]); refine bodyPost_ret (results_tmp2 rfl _ _ _) rfl ?_
                          rw [hres.out]
                          exact ⟨⟨_, rfl⟩, HT3.out.1, HT3.out.weak⟩
                        | true =>
                          have HQ : Aside0 (expo s (r) = some (run isDigit s (r + 1 + 1))) := ⟨expY HKK.out hg⟩
                          have HGK := Aside0.mk hg
                          go_wp2_with (first | (go_at_call 40; with_reducible refine same (specDigit_c _ _) ?_) | (go_at_call 37; with_reducible refine same (specIdentPart_c _ _) ?_))
                          clear hg
                          go_loopg [9] (((s.size : Int) - (r + 1 + 1)).toNat + 1) (fun kq v9 wq => ∃ z : Int, v9 = .int .i64 z ∧ Aside0 (r + 1 + 1 ≤ z ∧ z ≤ (s.size : Int) ∧ run isDigit s z = run isDigit s (r + 1 + 1) ∧ ((s.size : Int) - z).toNat < kq) ∧ Aside0 (TK g y w wq))
                          case atStart => exact ⟨r + 1 + 1, rfl, ⟨by omega, by omega, rfl, by omega⟩, ⟨HT3.out.float⟩⟩
                          case round =>
                            obtain ⟨z, rfl, HA2, HTq⟩ := hrel
                            obtain ⟨⟨Kz, hKz⟩, ⟨Nz, hNz⟩, hZz⟩ := HTq.out.cells
                            have q20 := HA2.out.1
                            have q2n : 0 ≤ z := by omega
                            have q21 := HA2.out.2.1
                            have q2w := iwrap (z + 1) (by omega) (by omega)
                            by_cases hq2 : z < (s.size : Int)
                            · have hdq2 : decide (z < (s.size : Int)) = true := decide_eq_true hq2
                              have hxq2 := bt_at s z
                              cases hg2 : isDigit (bt s z) with
                              | true =>
                                have HG2 := Aside0.mk hg2
                                go_wp2_with (first | (go_at_call 40; with_reducible refine same (specDigit_c _ _) ?_) | (go_at_call 37; with_reducible refine same (specIdentPart_c _ _) ?_))
                                go_roundg (((s.size : Int) - (z + 1)).toNat + 1)
                                case measure => have := HA2.out.2.2.2; omega
                                case rel => exact ⟨z + 1, rfl, ⟨by omega, by omega, by rw [← HA2.out.2.2.1]; exact (run_step hq2 HG2.out).symm, by omega⟩, HTq⟩
                              | false =>
                                have HG2 : Aside0 (numT s (r) = if isPart (bt s z) then none else some (.other, z)) := ⟨numT_yes HE.out (by rw [HQ.out, ← HA2.out.2.2.1, run_stop hg2])⟩
                                have hxF := bt_at s (z)
                                cases hP : isPart (bt s (z)) with
                                | true =>
                                  have hres : Aside0 (R = none) := ⟨by rw [← HRT.out, HG2.out]; rw [hP]; rfl⟩
                                  go_wp2_with (first | (go_at_call 40; with_reducible refine same (specDigit_c _ _) ?_) | (go_at_call 37; with_reducible refine same (specIdentPart_c _ _) ?_))
                                  (try simp only [Exit.inBlock, Exit.then]); refine bodyPost_ret (results_tmp2 rfl _ _ _) rfl ?_
                                  rw [hres.out]
                                  exact ⟨⟨_, rfl⟩, HTq.out.1, HTq.out.weak⟩
                                | false =>
                                  have hres : Aside0 (R = some (.other, z)) := ⟨by rw [← HRT.out, HG2.out]; rw [hP]; rfl⟩
                                  go_wp2_with (first | (go_at_call 40; with_reducible refine same (specDigit_c _ _) ?_) | (go_at_call 37; with_reducible refine same (specIdentPart_c _ _) ?_))
                                  (try simp only [Exit.inBlock, Exit.then]); refine bodyPost_ret (results_tmp2 rfl _ _ _) rfl ?_
                                  rw [hres.out]
                                  exact ⟨rfl, HTq.out.1, HTq.out.2⟩
                            · have hdq2 : decide (z < (s.size : Int)) = false := decide_eq_false hq2
                              have HG2 : Aside0 (numT s (r) = if isPart (bt s z) then none else some (.other, z)) := ⟨numT_yes HE.out (by rw [HQ.out, ← HA2.out.2.2.1, run_end (by omega)])⟩
                              have hres : Aside0 (R = some (.other, z)) := ⟨by rw [← HRT.out, HG2.out]; rw [bt_far s _ (by omega)]; rfl⟩
                              go_wp2_with (first | (go_at_call 40; with_reducible refine same (specDigit_c _ _) ?_) | (go_at_call 37; with_reducible refine same (specIdentPart_c _ _) ?_))
                              (try simp only [Exit.inBlock, Exit.then]); refine bodyPost_ret (results_tmp2 rfl _ _ _) rfl ?_
                              rw [hres.out]
                              exact ⟨rfl, HTq.out.1, HTq.out.2⟩
                      · have hdk : decide (r + 1 + 1 < (s.size : Int)) = false := decide_eq_false hk
                        have hek : (r + 1 + 1 == (s.size : Int)) = true := beq_iff_eq.2 (by omega)
                        have hres : Aside0 (R = none) := ⟨by rw [← HRT.out]; exact numT_no HE.out (expN HKK.out (by rw [bt_far s _ (by omega)]; rfl))⟩
                        go_wp2_with (first | (go_at_call 40; with_reducible refine same (specDigit_c _ _) ?_) | (go_at_call 37; with_reducible refine same (specIdentPart_c _ _) ?_))
                        (try simp only [Exit.inBlock, Exit.then]); refine bodyPost_ret (results_tmp2 rfl _ _ _) rfl ?_
                        rw [hres.out]
                        exact ⟨⟨_, rfl⟩, HT3.out.1, HT3.out.weak⟩
                  · have hdk1 : decide (r + 1 < (s.size : Int)) = false := decide_eq_false hk1
                    have hek1 : (r + 1 == (s.size : Int)) = true := beq_iff_eq.2 (by omega)
                    have hz1 : bt s (r + 1) = 0 := bt_far s _ (by omega)
                    have HKK : Aside0 ((if bt s (r + 1) == 43 || bt s (r + 1) == 45 then r + 2 else r + 1) = r + 1) := ⟨by rw [hz1]; rfl⟩
                    have HZ1 := Aside0.mk hz1
                    clear hz1
                    have hres : Aside0 (R = none) := ⟨by rw [← HRT.out]; exact numT_no HE.out (expN HKK.out (by rw [HZ1.out]; rfl))⟩
                    go_wp2_with (first | (go_at_call 40; with_reducible refine same (specDigit_c _ _) ?_) | (go_at_call 37; with_reducible refine same (specIdentPart_c _ _) ?_))
                    (try simp only [Exit.inBlock, Exit.then]); refine bodyPost_ret (results_tmp2 rfl _ _ _) rfl ?_
                    rw [hres.out]
                    exact ⟨⟨_, rfl⟩, HT3.out.1, HT3.out.weak⟩
            · have hdr : decide (r < (s.size : Int)) = false := decide_eq_false hr
              have HRT : Aside0 (numT s r = R) := ⟨by rw [← HR.out, HM.out, ← HA3.out.2.2.1, run_end (by omega)]⟩
              have HE : Aside0 (isE (bt s (r)) = false) := ⟨by rw [bt_far s _ (by omega)]; rfl⟩
              have hres : Aside0 (R = some (.other, r)) := ⟨by rw [← HRT.out, numT_plain HE.out]; rw [bt_far s _ (by omega)]; rfl⟩
              go_wp2_with (first | (go_at_call 40; with_reducible refine same (specDigit_c _ _) ?_) | (go_at_call 37; with_reducible refine same (specIdentPart_c _ _) ?_))
              (try simp only [Exit.inBlock, Exit.then]); refine bodyPost_ret (results_tmp2 rfl _ _ _) rfl ?_
              rw [hres.out]
              exact ⟨rfl, HT3.out.1, HT3.out.2⟩
    · have hd : decide (q < (s.size : Int)) = false := decide_eq_false hq
      have HRT : Aside0 (numT s q = R) := ⟨by rw [← HR.out]; unfold mant dotted; rw [← HA.out.2.2.1, run_end (by omega), bt_far s q (by omega)]; rfl⟩
      have HE : Aside0 (isE (bt s (q)) = false) := ⟨by rw [bt_far s _ (by omega)]; rfl⟩
      have hres : Aside0 (R = some (.other, q)) := ⟨by rw [← HRT.out, numT_plain HE.out]; rw [bt_far s _ (by omega)]; rfl⟩
      go_wp2_with (first | (go_at_call 40; with_reducible refine same (specDigit_c _ _) ?_) | (go_at_call 37; with_reducible refine same (specIdentPart_c _ _) ?_))
      (try simp only [Exit.inBlock, Exit.then]); refine bodyPost_ret (results_tmp2 rfl _ _ _) rfl ?_
      rw [hres.out]
      exact ⟨rfl, HTr.out.1, HTr.out.2⟩
theorem lNumber_c (s : ByteArray) (p : Int) (w : World) (g : Nat) (y : Tt) (hY : IsT w g y) (h0 : 0 ≤ p) (h1 : p < (s.size : Int)) (hs : (s.size : Int) ≤ 1000000) :
    Calls Tryz.prog 41 #[.string s, .int .i64 p, .pointer (some ⟨g, 0, none⟩)] w (Tells g y (numW s p) w) := by
  cases hh : hexPre s p with
  | true => exact lNumber_hex s p w g y hY h0 hs hh
  | false => exact lNumber_dec s p w g y hY h0 h1 hs hh
end Go.Proofs.YtjepdlmcombmcaaGreatDoor.Lx
