/- The reference's escapes: what Escape returns. Conditions: the place lies in the text; the text is no longer than a million bytes. -/
import Derived.Test.YtjepdlmcombmcaaGreatDoorRd
import Derived.Test.YtjepdlmcombmcaaGreatDoorNl
import Derived.Laws.Runes
namespace Go.Proofs.YtjepdlmcombmcaaGreatDoor.Lx
open Go.RowKit Go.Proofs.YtjepdlmcombmcaaGreatDoorW.PrintWords

theorem encode_size (r : Int) : 1 ≤ (Utf8.encode r).size ∧ (Utf8.encode r).size ≤ 4 := by
  unfold Utf8.encode
  simp only []
  (repeat' split) <;> exact ⟨Nat.le_of_ble_eq_true rfl, Nat.le_of_ble_eq_true rfl⟩
theorem i32wrap (n : Int) (h0 : 0 ≤ n) (h1 : n ≤ 2000000) : IntKind.i32.wrap n = n := by
  have h : n % 4294967296 = n := by omega
  simp [IntKind.wrap, IntKind.bits, IntKind.signed]
  omega
theorem pow16 : ∀ k : Nat, k ≤ 8 → (16 : Int) ^ k ≤ 4294967296 := by
  intro k hk
  have h : ∀ j : Fin 9, (16 : Int) ^ (j : Nat) ≤ 4294967296 := by decide
  exact h ⟨k, by omega⟩
theorem OwnB.one (w : World) (y : Int) : OwnB (w.alloc (.cells #[.int .u8 y] 5)) w.heap.size (.slice (some ⟨w.heap.size, 0, none⟩) 1 1) [y] :=
  ⟨w.heap.size, 1, _, _, rfl, Nat.le_refl _, heap_alloc_new w _, .inl rfl, Nat.le_refl _, by simp [maxLen], rfl, rfl⟩
section
variable {s : ByteArray} {p : Int} {bytes : Bool}
theorem esx_simple (h : p + 1 < (s.size : Int)) (hs : isSimpleEsc (bt s (p + 1)) = true) : esc s false bytes p = some (p + 2) := by
  unfold esc
  rw [if_neg (by omega), if_neg (by decide), if_pos hs]
theorem esc_oct (h : p + 1 < (s.size : Int)) (hs : isSimpleEsc (bt s (p + 1)) = false) (h1 : 48 ≤ bt s (p + 1)) (h2 : bt s (p + 1) ≤ 51) : esc s false bytes p = if isOct (bt s (p + 2)) && isOct (bt s (p + 3)) then some (p + 4) else none := by
  unfold esc
  rw [if_neg (by omega), if_neg (by decide), if_neg (by rw [hs]; decide), if_neg (by simp; omega), if_neg (by simp; omega), if_neg (by simp; omega), if_pos (decide_eq_true ⟨h1, h2⟩)]
theorem esx_x (h : p + 1 < (s.size : Int)) (hs : isSimpleEsc (bt s (p + 1)) = false) (hx : (bt s (p + 1) == 120 || bt s (p + 1) == 88) = true) : esc s false bytes p = if hexes s 2 (p + 2) then some (p + 4) else none := by
  unfold esc
  rw [if_neg (by omega), if_neg (by decide), if_neg (by rw [hs]; decide), if_pos hx]
theorem esx_u (h : p + 1 < (s.size : Int)) (hs : isSimpleEsc (bt s (p + 1)) = false) (hx : (bt s (p + 1) == 120 || bt s (p + 1) == 88) = false) (hu : (bt s (p + 1) == 117) = true) : esc s false false p = if hexes s 4 (p + 2) && isRune (hexNum s 4 (p + 2) 0) then some (p + 6) else none := by
  unfold esc
  rw [if_neg (by omega), if_neg (by decide), if_neg (by rw [hs]; decide), if_neg (by rw [hx]; decide), if_pos (by rw [hu]; rfl)]
theorem esx_U (h : p + 1 < (s.size : Int)) (hs : isSimpleEsc (bt s (p + 1)) = false) (hx : (bt s (p + 1) == 120 || bt s (p + 1) == 88) = false) (hu : (bt s (p + 1) == 117) = false) (hU : (bt s (p + 1) == 85) = true) : esc s false false p = if hexes s 8 (p + 2) && isRune (hexNum s 8 (p + 2) 0) then some (p + 10) else none := by
  unfold esc
  rw [if_neg (by omega), if_neg (by decide), if_neg (by rw [hs]; decide), if_neg (by rw [hx]; decide), if_neg (by rw [hu]; decide), if_pos (by rw [hU]; rfl)]
theorem esc_other (h : p + 1 < (s.size : Int)) (hs : isSimpleEsc (bt s (p + 1)) = false) (hx : (bt s (p + 1) == 120 || bt s (p + 1) == 88) = false) (hu : (bt s (p + 1) == 117 && !bytes) = false) (hU : (bt s (p + 1) == 85 && !bytes) = false) (ho : ¬ (48 ≤ bt s (p + 1) ∧ bt s (p + 1) ≤ 51)) : esc s false bytes p = none := by
  unfold esc
  rw [if_neg (by omega), if_neg (by decide), if_neg (by rw [hs]; decide), if_neg (by rw [hx]; decide), if_neg (by rw [hu]; decide), if_neg (by rw [hU]; decide), if_neg (by simpa using ho)]
theorem oct_no {k : Nat} (h1 : 48 ≤ bt s (p + 1)) (h2 : bt s (p + 1) ≤ 51) (hk : k < 3) (h : isOct (bt s (p + 1 + (k : Int))) = false) : (if isOct (bt s (p + 2)) && isOct (bt s (p + 3)) then some (p + 4) else none) = (none : Option Int) := by
  have hk : k = 0 ∨ k = 1 ∨ k = 2 := by omega
  rcases hk with rfl | rfl | rfl
  · have e : p + 1 + ((0 : Nat) : Int) = p + 1 := by omega
    rw [e] at h
    unfold isOct at h
    have := of_decide_eq_false h
    omega
  · have e : p + 1 + ((1 : Nat) : Int) = p + 2 := by omega
    rw [e] at h
    rw [h]
    rfl
  · have e : p + 1 + ((2 : Nat) : Int) = p + 3 := by omega
    rw [e] at h
    rw [h, Bool.and_false]
    rfl
end
def escFrom : ByteArray := ⟨#[97, 98, 102, 110, 114, 116, 118, 92, 63, 34, 39, 96]⟩
def escTo : ByteArray := ⟨#[7, 8, 12, 10, 13, 9, 11, 92, 63, 34, 39, 96]⟩
theorem escFrom_yes : ∀ k : Fin 12, isSimpleEsc (bt escFrom (k : Int)) = true := by decide
theorem escFrom_all (c : Int) (h : isSimpleEsc c = true) : ∃ k : Fin 12, bt escFrom (k : Int) = c := by
  unfold isSimpleEsc at h
  simp only [Bool.or_eq_true, beq_iff_eq] at h
  rcases h with ((((((((((rfl | rfl) | rfl) | rfl) | rfl) | rfl) | rfl) | rfl) | rfl) | rfl) | rfl) | rfl <;> decide
/-- What Escape returns. -/
def EscE (r : Option Int) (w : World) (e : Ending) (w' : World) : Prop := match r with
  | some q => ∃ g n cap ys, e = .returned (.tuple #[.slice (some ⟨g, 0, none⟩) n cap, .int .i64 q, .bool true]) ∧ OwnB w' w.heap.size (.slice (some ⟨g, 0, none⟩) n cap) ys ∧ ys.length = n ∧ 1 ≤ n ∧ n ≤ 4 ∧ Below w.heap.size w w'
  | none => ∃ q : Int, e = .returned (.tuple #[.slice none 0 0, .int .i64 q, .bool false]) ∧ w' = w
set_option maxRecDepth 100000 in
set_option maxHeartbeats 8000000 in
theorem escape_c (s : ByteArray) (p : Int) (bytes : Bool) (w : World) (h0 : 0 ≤ p) (h1 : p < (s.size : Int)) (hs : (s.size : Int) ≤ 1000000) :
    Calls Tryz.prog 59 #[.string s, .int .i64 p, .bool bytes] w (EscE (esc s false bytes p) w) := by
  obtain ⟨R, hR⟩ : ∃ R, esc s false bytes p = R := ⟨_, rfl⟩
  have HR := Aside0.mk hR
  rw [hR]
  clear hR
  have w1 := iwrap (p + 1) (by omega) (by omega)
  have w2 := iwrap (p + 2) (by omega) (by omega)
  have w4 := iwrap (p + 4) (by omega) (by omega)
  have p10 : 0 ≤ p + 1 := by omega
  go_enter Tryz.func59, Tryz.ntmps59
  obtain ⟨K, hK⟩ : ∃ K, escFrom = K := ⟨_, rfl⟩
  obtain ⟨L, hL⟩ : ∃ L, escTo = L := ⟨_, rfl⟩
  rw [show (⟨#[97, 98, 102, 110, 114, 116, 118, 92, 63, 34, 39, 96]⟩ : ByteArray) = K from hK, show (⟨#[7, 8, 12, 10, 13, 9, 11, 92, 63, 34, 39, 96]⟩ : ByteArray) = L from hL]
  have HK := Aside0.mk hK
  have hks : (K.size : Int) = 12 := by rw [← hK]; rfl
  have hls : (L.size : Int) = 12 := by rw [← hL]; rfl
  clear hK hL
  by_cases hsz : p + 1 < (s.size : Int)
  · have hds : decide ((s.size : Int) ≤ p + 1) = false := decide_eq_false (by omega)
    have hxp := bt_at s (p + 1)
    go_wp2
    go_loopg [10] 13 (fun kq v10 wr => ∃ j : Nat, v10 = .int .i64 (j : Int) ∧ Aside0 (j ≤ 12 ∧ (∀ i : Fin 12, (i : Nat) < j → bt K (i : Int) ≠ bt s (p + 1)) ∧ 12 - j < kq) ∧ wr = w)
    case atStart => exact ⟨0, rfl, ⟨by omega, fun i h => by omega, by omega⟩, rfl⟩
    case round =>
      obtain ⟨j, rfl, HB, hwr⟩ := hrel
      obtain rfl := hwr.symm
      have j12 := HB.out.1
      have wj := iwrap ((j : Int) + 1) (by omega) (by omega)
      by_cases hj : (j : Int) < 12
      · have hdj : decide ((j : Int) < 12) = true := decide_eq_true hj
        have c0 : (0 : Int) ≤ (j : Int) := by omega
        have hj' : j < 12 := by omega
        have hx2 : ∀ h : j < K.size, ((K[j]'h).toNat : Int) = bt K (j : Int) := fun h => by simpa using bt_at K (j : Int) (by simpa using h)
        have hx3 : ∀ h : j < L.size, ((L[j]'h).toNat : Int) = bt L (j : Int) := fun h => by simpa using bt_at L (j : Int) (by simpa using h)
        have cK : (j : Int) < (K.size : Int) := by omega
        have cL : (j : Int) < (L.size : Int) := by omega
        cases hb : (bt K (j : Int) == bt s (p + 1)) with
        | true =>
          have hres : Aside0 (R = some (p + 2)) := ⟨by
            have h5 := escFrom_yes ⟨j, hj'⟩
            rw [HK.out] at h5
            rw [← HR.out]
            exact esx_simple hsz (by rw [← beq_iff_eq.1 hb]; exact h5)⟩
          go_wp2
          (try simp only [Exit.inBlock, Exit.then]); refine bodyPost_ret (results_tmp3 rfl _ _ _ rfl rfl rfl) rfl ?_
          rw [hres.out]
          exact ⟨_, _, _, _, rfl, OwnB.one _ _, rfl, Nat.le_refl _, by omega, below_alloc (Below.refl _ _) _⟩
        | false =>
          have HBB := Aside0.mk (ne_of_beq_false hb)
          go_wp2
          go_roundg (12 - j)
          case measure => have := HB.out.2.2; omega
          case rel => exact ⟨j + 1, by congr 1, ⟨by omega, fun i hi => by
            by_cases hij : (i : Nat) = j
            · rw [hij]
              exact HBB.out
            · exact HB.out.2.1 i (by omega), by omega⟩, rfl⟩
      · have hdj : decide ((j : Int) < 12) = false := decide_eq_false hj
        have HS : Aside0 (isSimpleEsc (bt s (p + 1)) = false) := ⟨by
          rw [← Bool.not_eq_true]
          intro h5
          obtain ⟨i, hi⟩ := escFrom_all _ h5
          exact HB.out.2.1 i (by omega) (by rw [← HK.out]; exact hi)⟩
        by_cases ho : 48 ≤ bt s (p + 1) ∧ bt s (p + 1) ≤ 51
        · obtain ⟨o1, o2⟩ := ho
          have HRO : Aside0 ((if isOct (bt s (p + 2)) && isOct (bt s (p + 3)) then some (p + 4) else none) = R) := ⟨by rw [← HR.out]; exact (esc_oct hsz HS.out o1 o2).symm⟩
          by_cases hlen : (s.size : Int) < p + 4
          · have hdl : decide ((s.size : Int) < p + 4) = true := decide_eq_true hlen
            have hres : Aside0 (R = none) := ⟨by rw [← HRO.out, bt_far s (p + 3) (by omega)]; rw [show isOct 0 = false from by decide, Bool.and_false]; rfl⟩
            go_wp2_with (first | (go_at_call 60; (with_reducible refine (specHex_c _ _ hb0 hb1).mono ?_); rintro e w' ⟨rfl, hw'⟩; obtain rfl := hw'.symm))
            (try simp only [Exit.inBlock, Exit.then]); refine bodyPost_ret (results_tmp3 rfl _ _ _ rfl rfl rfl) rfl ?_
            rw [hres.out]
            exact ⟨_, rfl, rfl⟩
          · have hdl : decide ((s.size : Int) < p + 4) = false := decide_eq_false hlen
            have p4 := iwrap (p + 4) (by omega) (by omega)
            go_wp2_with (first | (go_at_call 60; (with_reducible refine (specHex_c _ _ hb0 hb1).mono ?_); rintro e w' ⟨rfl, hw'⟩; obtain rfl := hw'.symm))
            go_loopg [11, 13] 4 (fun kq v11 v13 wr => ∃ (k : Nat) (n : Int), v11 = .int .i64 n ∧ v13 = .int .i64 (p + 1 + (k : Int)) ∧ Aside0 (k ≤ 3 ∧ (∀ j : Nat, 1 ≤ j → j < k → isOct (bt s (p + 1 + j)) = true) ∧ 3 - k < kq) ∧ Aside0 (0 ≤ n ∧ n ≤ 1000000) ∧ Aside0 (k = 0 ∧ n = 0 ∨ k = 1 ∧ n ≤ 7 ∨ k = 2 ∧ n ≤ 63 ∨ k = 3 ∧ n ≤ 511) ∧ wr = w)
            case atStart => exact ⟨0, 0, rfl, by simp, ⟨by omega, fun j h1 h2 => by omega, by omega⟩, ⟨by omega, by omega⟩, ⟨.inl ⟨rfl, rfl⟩⟩, rfl⟩
            case round =>
              obtain ⟨k, n, rfl, rfl, HA, HN, HNK, hwr⟩ := hrel
              obtain rfl := hwr.symm
              have k1 := HA.out.1
              have n0 := HN.out.1
              have n1 := HN.out.2
              have hwk := iwrap (p + 1 + (k : Int) + 1) (by omega) (by omega)
              by_cases hk : (k : Int) < 3
              · have hdk : decide (p + 1 + (k : Int) < p + 4) = true := decide_eq_true (by omega)
                have hx := bt_at s (p + 1 + (k : Int))
                have j0 : 0 ≤ p + 1 + (k : Int) := by omega
                have j1 : p + 1 + (k : Int) < (s.size : Int) := by omega
                have hpk : p + 1 + ((k + 1 : Nat) : Int) = p + 1 + (k : Int) + 1 := by push_cast; omega
                by_cases hc1 : bt s (p + 1 + (k : Int)) < 48
                · have hd1 : decide (bt s (p + 1 + (k : Int)) < 48) = true := decide_eq_true hc1
                  have hres : Aside0 (R = none) := ⟨by rw [← HRO.out]; exact oct_no (p := p) (k := k) o1 o2 (by omega) (by unfold isOct; exact decide_eq_false (by omega))⟩
                  go_wp2_with (first | (go_at_call 60; (with_reducible refine (specHex_c _ _ hb0 hb1).mono ?_); rintro e w' ⟨rfl, hw'⟩; obtain rfl := hw'.symm))
                  (try simp only [Exit.inBlock, Exit.then]); refine bodyPost_ret (results_tmp3 rfl _ _ _ rfl rfl rfl) rfl ?_
                  rw [hres.out]
                  exact ⟨_, rfl, rfl⟩
                have hd1 : decide (bt s (p + 1 + (k : Int)) < 48) = false := decide_eq_false hc1
                by_cases hc2 : 55 < bt s (p + 1 + (k : Int))
                · have hd2 : decide (55 < bt s (p + 1 + (k : Int))) = true := decide_eq_true hc2
                  have hres : Aside0 (R = none) := ⟨by rw [← HRO.out]; exact oct_no (p := p) (k := k) o1 o2 (by omega) (by unfold isOct; exact decide_eq_false (by omega))⟩
                  go_wp2_with (first | (go_at_call 60; (with_reducible refine (specHex_c _ _ hb0 hb1).mono ?_); rintro e w' ⟨rfl, hw'⟩; obtain rfl := hw'.symm))
                  (try simp only [Exit.inBlock, Exit.then]); refine bodyPost_ret (results_tmp3 rfl _ _ _ rfl rfl rfl) rfl ?_
                  rw [hres.out]
                  exact ⟨_, rfl, rfl⟩
                have hd2 : decide (55 < bt s (p + 1 + (k : Int))) = false := decide_eq_false hc2
                have hw8 := iwrap (8 * n) (by omega) (by omega)
                have hw9 := iwrap (8 * n + (bt s (p + 1 + (k : Int)) - 48)) (by omega) (by omega)
                have HOK : Aside0 (isOct (bt s (p + 1 + (k : Int))) = true) := ⟨by unfold isOct; exact decide_eq_true (by omega)⟩
                have HNB : Aside0 (0 ≤ 8 * n + (bt s (p + 1 + (k : Int)) - 48) ∧ 8 * n + (bt s (p + 1 + (k : Int)) - 48) ≤ 1000000) := ⟨by have := HNK.out; omega⟩
                have HNC : Aside0 (k + 1 = 0 ∧ 8 * n + (bt s (p + 1 + (k : Int)) - 48) = 0 ∨ k + 1 = 1 ∧ 8 * n + (bt s (p + 1 + (k : Int)) - 48) ≤ 7 ∨ k + 1 = 2 ∧ 8 * n + (bt s (p + 1 + (k : Int)) - 48) ≤ 63 ∨ k + 1 = 3 ∧ 8 * n + (bt s (p + 1 + (k : Int)) - 48) ≤ 511) := ⟨by have := HNK.out; omega⟩
                go_wp2_with (first | (go_at_call 60; (with_reducible refine (specHex_c _ _ hb0 hb1).mono ?_); rintro e w' ⟨rfl, hw'⟩; obtain rfl := hw'.symm))
                go_roundg (3 - k)
                case measure => have := HA.out.2.2; omega
                case rel => exact ⟨k + 1, _, rfl, by rw [hpk], ⟨by omega, fun j h1 h2 => by
                  by_cases hj : j = k
                  · rw [hj]; exact HOK.out
                  · exact HA.out.2.1 j h1 (by omega), by omega⟩, HNB, HNC, rfl⟩
              · have hdk : decide (p + 1 + (k : Int) < p + 4) = false := decide_eq_false (by omega)
                have HO2 : Aside0 (isOct (bt s (p + 2)) = true ∧ isOct (bt s (p + 3)) = true) := ⟨by
                  have a1 := HA.out.2.1 1 (by omega) (by omega)
                  have a2 := HA.out.2.1 2 (by omega) (by omega)
                  have e1 : p + 1 + ((1 : Nat) : Int) = p + 2 := by omega
                  have e2 : p + 1 + ((2 : Nat) : Int) = p + 3 := by omega
                  rw [e1] at a1
                  rw [e2] at a2
                  exact ⟨a1, a2⟩⟩
                have hres : Aside0 (R = some (p + 4)) := ⟨by rw [← HRO.out, HO2.out.1, HO2.out.2]; rfl⟩
                go_wp2_with (first | (go_at_call 60; (with_reducible refine (specHex_c _ _ hb0 hb1).mono ?_); rintro e w' ⟨rfl, hw'⟩; obtain rfl := hw'.symm))
                (try simp only [Exit.inBlock, Exit.then]); refine bodyPost_ret (results_tmp3 rfl _ _ _ rfl rfl rfl) rfl ?_
                rw [hres.out]
                exact ⟨_, _, _, _, rfl, OwnB.one _ _, rfl, Nat.le_refl _, by omega, below_alloc (Below.refl _ _) _⟩
        have HNO := Aside0.mk ho
        have hoc : decide (48 ≤ bt s (p + 1)) = false ∨ 48 ≤ bt s (p + 1) ∧ decide (bt s (p + 1) ≤ 51) = false := by
          by_cases c0 : 48 ≤ bt s (p + 1)
          · exact .inr ⟨c0, decide_eq_false (fun c1 => ho ⟨c0, c1⟩)⟩
          · exact .inl (decide_eq_false c0)
        clear ho
        cases h120 : (bt s (p + 1) == 120) with
        | true =>
          have HRD : Aside0 ((if hexes s 2 (p + 2) then some (p + 4) else none) = R) := ⟨by rw [← HR.out]; exact (esx_x hsz HS.out (by rw [h120]; rfl)).symm⟩
          have hoc' : 48 ≤ bt s (p + 1) ∧ decide (bt s (p + 1) ≤ 51) = false := by rw [beq_iff_eq.1 h120]; decide
          obtain ⟨hoc1, hoc2⟩ := hoc'
          clear hoc
          have hwd := iwrap (p + 2 + 2) (by omega) (by omega)
          by_cases hlen : (s.size : Int) < p + 2 + 2
          · have hdl : decide ((s.size : Int) < p + 2 + 2) = true := decide_eq_true hlen
            have HNX : Aside0 (hexes s 2 (p + 2) = false) := ⟨by rw [← Bool.not_eq_true]; intro hx; have := hexes_in s 2 (p + 2) (by omega) (by omega) hx; omega⟩
            have hres : Aside0 (R = none) := ⟨by rw [← HRD.out, HNX.out]; rfl⟩
            go_wp2_with (first | (go_at_call 60; (with_reducible refine (specHex_c _ _ hb0 hb1).mono ?_); rintro e w' ⟨rfl, hw'⟩; obtain rfl := hw'.symm))
            (try simp only [Exit.inBlock, Exit.then]); refine bodyPost_ret (results_tmp3 rfl _ _ _ rfl rfl rfl) rfl ?_
            rw [hres.out]
            exact ⟨_, rfl, rfl⟩
          · have hdl : decide ((s.size : Int) < p + 2 + 2) = false := decide_eq_false hlen
            go_wp2_with (first | (go_at_call 60; (with_reducible refine (specHex_c _ _ hb0 hb1).mono ?_); rintro e w' ⟨rfl, hw'⟩; obtain rfl := hw'.symm))
            go_loopg [11, 14] 3 (fun kq v11 v14 wr => ∃ (k : Nat) (n : Int), v11 = .int .i64 n ∧ v14 = .int .i64 (p + 2 + (k : Int)) ∧ Aside0 (k ≤ 2 ∧ hexes s 2 (p + 2) = hexes s (2 - k) (p + 2 + k) ∧ hexNum s 2 (p + 2) 0 = hexNum s (2 - k) (p + 2 + k) n ∧ 2 - k < kq) ∧ Aside0 (0 ≤ n ∧ n + 1 ≤ (16 : Int) ^ k) ∧ wr = w)
            case atStart => exact ⟨0, 0, rfl, by simp, ⟨by omega, by simp, by simp, by omega⟩, ⟨by omega, by simp⟩, rfl⟩
            case round =>
              obtain ⟨k, n, rfl, rfl, HA, HN, hwr⟩ := hrel
              obtain rfl := hwr.symm
              have k1 := HA.out.1
              have n0 := HN.out.1
              have nX := HN.out.2
              have nB := pow16 k (by omega)
              have hwk := iwrap (p + 2 + (k : Int) + 1) (by omega) (by omega)
              by_cases hk : (k : Int) < 2
              · have hdk : decide (p + 2 + (k : Int) < p + 2 + 2) = true := decide_eq_true (by omega)
                have hx := bt_at s (p + 2 + (k : Int))
                have j0 : 0 ≤ p + 2 + (k : Int) := by omega
                have j1 : p + 2 + (k : Int) < (s.size : Int) := by omega
                have hb0 := (bt_range s (p + 2 + (k : Int))).1
                have hb1 : bt s (p + 2 + (k : Int)) ≤ 255 := by have := (bt_range s (p + 2 + (k : Int))).2; omega
                obtain ⟨m, hm⟩ : ∃ m, 2 - k = m + 1 := ⟨2 - k - 1, by omega⟩
                have hm2 : 2 - (k + 1) = m := by omega
                have hpk : p + 2 + ((k + 1 : Nat) : Int) = p + 2 + (k : Int) + 1 := by push_cast; omega
                have HM := Aside0.mk hm
                clear hm
                cases hg : isHex (bt s (p + 2 + (k : Int))) with
                | false =>
                  have hv : decide (hexVal (bt s (p + 2 + (k : Int))) < 0) = true := decide_eq_true (hexVal_no hg)
                  have HNX : Aside0 (hexes s 2 (p + 2) = false) := ⟨by rw [HA.out.2.1, HM.out]; simp only [hexes, hg, Bool.false_and]⟩
                  have hres : Aside0 (R = none) := ⟨by rw [← HRD.out, HNX.out]; rfl⟩
                  go_wp2_with (first | (go_at_call 60; (with_reducible refine (specHex_c _ _ hb0 hb1).mono ?_); rintro e w' ⟨rfl, hw'⟩; obtain rfl := hw'.symm))
                  (try simp only [Exit.inBlock, Exit.then]); refine bodyPost_ret (results_tmp3 rfl _ _ _ rfl rfl rfl) rfl ?_
                  rw [hres.out]
                  exact ⟨_, rfl, rfl⟩
                | true =>
                  have hv0 := hexVal_yes hg
                  have hv1 := (hexVal_range hg).2
                  have hv : decide (hexVal (bt s (p + 2 + (k : Int))) < 0) = false := decide_eq_false (by omega)
                  have hw16 := iwrap (16 * n) (by omega) (by omega)
                  have hw17 := iwrap (16 * n + hexVal (bt s (p + 2 + (k : Int)))) (by omega) (by omega)
                  have HG := Aside0.mk hg
                  clear hg
                  have HV := Aside0.mk (And.intro hv0 hv1)
                  have HNN := Aside0.mk (And.intro n0 nX)
                  clear nX nB hv0 hv1 HN n0
                  go_wp2_with (first | (go_at_call 60; (with_reducible refine (specHex_c _ _ hb0 hb1).mono ?_); rintro e w' ⟨rfl, hw'⟩; obtain rfl := hw'.symm))
                  go_roundg (2 - k)
                  case measure => have := HA.out.2.2.2; omega
                  case rel => exact ⟨k + 1, _, rfl, by rw [hpk], ⟨by omega, by rw [hm2, hpk, HA.out.2.1, HM.out]; simp only [hexes, HG.out, Bool.true_and], by rw [hm2, hpk, HA.out.2.2.1, HM.out]; rfl, by omega⟩, ⟨by have := HNN.out.1; have := HV.out.1; omega, by rw [Int.pow_succ]; have := HNN.out.2; have := HV.out.2; omega⟩, rfl⟩
              · have hdk : decide (p + 2 + (k : Int) < p + 2 + 2) = false := decide_eq_false (by omega)
                have hkd : 2 - k = 0 := by omega
                have HX1 : Aside0 (hexes s 2 (p + 2) = true) := ⟨by rw [HA.out.2.1, hkd]; rfl⟩
                have HX2 : Aside0 (hexNum s 2 (p + 2) 0 = n) := ⟨by rw [HA.out.2.2.1, hkd]; rfl⟩
                clear nX nB hkd
                have hres : Aside0 (R = some (p + 4)) := ⟨by rw [← HRD.out, HX1.out]; rfl⟩
                go_wp2_with (first | (go_at_call 60; (with_reducible refine (specHex_c _ _ hb0 hb1).mono ?_); rintro e w' ⟨rfl, hw'⟩; obtain rfl := hw'.symm))
                (try simp only [Exit.inBlock, Exit.then]); refine bodyPost_ret (results_tmp3 rfl _ _ _ rfl rfl rfl) rfl ?_
                rw [hres.out]
                exact ⟨_, _, _, _, rfl, OwnB.one _ _, rfl, Nat.le_refl _, by omega, below_alloc (Below.refl _ _) _⟩
        | false =>
          cases h88 : (bt s (p + 1) == 88) with
          | true =>
            have HRD : Aside0 ((if hexes s 2 (p + 2) then some (p + 4) else none) = R) := ⟨by rw [← HR.out]; exact (esx_x hsz HS.out (by rw [h88, Bool.or_true])).symm⟩
            have hoc' : 48 ≤ bt s (p + 1) ∧ decide (bt s (p + 1) ≤ 51) = false := by rw [beq_iff_eq.1 h88]; decide
            obtain ⟨hoc1, hoc2⟩ := hoc'
            clear hoc
            have hwd := iwrap (p + 2 + 2) (by omega) (by omega)
            by_cases hlen : (s.size : Int) < p + 2 + 2
            · have hdl : decide ((s.size : Int) < p + 2 + 2) = true := decide_eq_true hlen
              have HNX : Aside0 (hexes s 2 (p + 2) = false) := ⟨by rw [← Bool.not_eq_true]; intro hx; have := hexes_in s 2 (p + 2) (by omega) (by omega) hx; omega⟩
              have hres : Aside0 (R = none) := ⟨by rw [← HRD.out, HNX.out]; rfl⟩
              go_wp2_with (first | (go_at_call 60; (with_reducible refine (specHex_c _ _ hb0 hb1).mono ?_); rintro e w' ⟨rfl, hw'⟩; obtain rfl := hw'.symm))
              (try simp only [Exit.inBlock, Exit.then]); refine bodyPost_ret (results_tmp3 rfl _ _ _ rfl rfl rfl) rfl ?_
              rw [hres.out]
              exact ⟨_, rfl, rfl⟩
            · have hdl : decide ((s.size : Int) < p + 2 + 2) = false := decide_eq_false hlen
              go_wp2_with (first | (go_at_call 60; (with_reducible refine (specHex_c _ _ hb0 hb1).mono ?_); rintro e w' ⟨rfl, hw'⟩; obtain rfl := hw'.symm))
              go_loopg [11, 14] 3 (fun kq v11 v14 wr => ∃ (k : Nat) (n : Int), v11 = .int .i64 n ∧ v14 = .int .i64 (p + 2 + (k : Int)) ∧ Aside0 (k ≤ 2 ∧ hexes s 2 (p + 2) = hexes s (2 - k) (p + 2 + k) ∧ hexNum s 2 (p + 2) 0 = hexNum s (2 - k) (p + 2 + k) n ∧ 2 - k < kq) ∧ Aside0 (0 ≤ n ∧ n + 1 ≤ (16 : Int) ^ k) ∧ wr = w)
              case atStart => exact ⟨0, 0, rfl, by simp, ⟨by omega, by simp, by simp, by omega⟩, ⟨by omega, by simp⟩, rfl⟩
              case round =>
                obtain ⟨k, n, rfl, rfl, HA, HN, hwr⟩ := hrel
                obtain rfl := hwr.symm
                have k1 := HA.out.1
                have n0 := HN.out.1
                have nX := HN.out.2
                have nB := pow16 k (by omega)
                have hwk := iwrap (p + 2 + (k : Int) + 1) (by omega) (by omega)
                by_cases hk : (k : Int) < 2
                · have hdk : decide (p + 2 + (k : Int) < p + 2 + 2) = true := decide_eq_true (by omega)
                  have hx := bt_at s (p + 2 + (k : Int))
                  have j0 : 0 ≤ p + 2 + (k : Int) := by omega
                  have j1 : p + 2 + (k : Int) < (s.size : Int) := by omega
                  have hb0 := (bt_range s (p + 2 + (k : Int))).1
                  have hb1 : bt s (p + 2 + (k : Int)) ≤ 255 := by have := (bt_range s (p + 2 + (k : Int))).2; omega
                  obtain ⟨m, hm⟩ : ∃ m, 2 - k = m + 1 := ⟨2 - k - 1, by omega⟩
                  have hm2 : 2 - (k + 1) = m := by omega
                  have hpk : p + 2 + ((k + 1 : Nat) : Int) = p + 2 + (k : Int) + 1 := by push_cast; omega
                  have HM := Aside0.mk hm
                  clear hm
                  cases hg : isHex (bt s (p + 2 + (k : Int))) with
                  | false =>
                    have hv : decide (hexVal (bt s (p + 2 + (k : Int))) < 0) = true := decide_eq_true (hexVal_no hg)
                    have HNX : Aside0 (hexes s 2 (p + 2) = false) := ⟨by rw [HA.out.2.1, HM.out]; simp only [hexes, hg, Bool.false_and]⟩
                    have hres : Aside0 (R = none) := ⟨by rw [← HRD.out, HNX.out]; rfl⟩
                    go_wp2_with (first | (go_at_call 60; (with_reducible refine (specHex_c _ _ hb0 hb1).mono ?_); rintro e w' ⟨rfl, hw'⟩; obtain rfl := hw'.symm))
                    (try simp only [Exit.inBlock, Exit.then]); refine bodyPost_ret (results_tmp3 rfl _ _ _ rfl rfl rfl) rfl ?_
                    rw [hres.out]
                    exact ⟨_, rfl, rfl⟩
                  | true =>
                    have hv0 := hexVal_yes hg
                    have hv1 := (hexVal_range hg).2
                    have hv : decide (hexVal (bt s (p + 2 + (k : Int))) < 0) = false := decide_eq_false (by omega)
                    have hw16 := iwrap (16 * n) (by omega) (by omega)
                    have hw17 := iwrap (16 * n + hexVal (bt s (p + 2 + (k : Int)))) (by omega) (by omega)
                    have HG := Aside0.mk hg
                    clear hg
                    have HV := Aside0.mk (And.intro hv0 hv1)
                    have HNN := Aside0.mk (And.intro n0 nX)
                    clear nX nB hv0 hv1 HN n0
                    go_wp2_with (first | (go_at_call 60; (with_reducible refine (specHex_c _ _ hb0 hb1).mono ?_); rintro e w' ⟨rfl, hw'⟩; obtain rfl := hw'.symm))
                    go_roundg (2 - k)
                    case measure => have := HA.out.2.2.2; omega
                    case rel => exact ⟨k + 1, _, rfl, by rw [hpk], ⟨by omega, by rw [hm2, hpk, HA.out.2.1, HM.out]; simp only [hexes, HG.out, Bool.true_and], by rw [hm2, hpk, HA.out.2.2.1, HM.out]; rfl, by omega⟩, ⟨by have := HNN.out.1; have := HV.out.1; omega, by rw [Int.pow_succ]; have := HNN.out.2; have := HV.out.2; omega⟩, rfl⟩
                · have hdk : decide (p + 2 + (k : Int) < p + 2 + 2) = false := decide_eq_false (by omega)
                  have hkd : 2 - k = 0 := by omega
                  have HX1 : Aside0 (hexes s 2 (p + 2) = true) := ⟨by rw [HA.out.2.1, hkd]; rfl⟩
                  have HX2 : Aside0 (hexNum s 2 (p + 2) 0 = n) := ⟨by rw [HA.out.2.2.1, hkd]; rfl⟩
                  clear nX nB hkd
                  have hres : Aside0 (R = some (p + 4)) := ⟨by rw [← HRD.out, HX1.out]; rfl⟩
                  go_wp2_with (first | (go_at_call 60; (with_reducible refine (specHex_c _ _ hb0 hb1).mono ?_); rintro e w' ⟨rfl, hw'⟩; obtain rfl := hw'.symm))
                  (try simp only [Exit.inBlock, Exit.then]); refine bodyPost_ret (results_tmp3 rfl _ _ _ rfl rfl rfl) rfl ?_
                  rw [hres.out]
                  exact ⟨_, _, _, _, rfl, OwnB.one _ _, rfl, Nat.le_refl _, by omega, below_alloc (Below.refl _ _) _⟩
          | false =>
            cases h117 : (bt s (p + 1) == 117) with
            | true =>
              have hoc' : 48 ≤ bt s (p + 1) ∧ decide (bt s (p + 1) ≤ 51) = false := by rw [beq_iff_eq.1 h117]; decide
              obtain ⟨hoc1, hoc2⟩ := hoc'
              clear hoc
              have h85 : (bt s (p + 1) == 85) = false := by rw [beq_iff_eq.1 h117]; rfl
              cases bytes with
              | true =>
                have hres : Aside0 (R = none) := ⟨by rw [← HR.out]; exact esc_other hsz HS.out (by rw [h120, h88]; rfl) (by rw [Bool.not_true, Bool.and_false]) (by rw [Bool.not_true, Bool.and_false]) HNO.out⟩
                go_wp2_with (first | (go_at_call 60; (with_reducible refine (specHex_c _ _ hb0 hb1).mono ?_); rintro e w' ⟨rfl, hw'⟩; obtain rfl := hw'.symm))
                (try simp only [Exit.inBlock, Exit.then]); refine bodyPost_ret (results_tmp3 rfl _ _ _ rfl rfl rfl) rfl ?_
                rw [hres.out]
                exact ⟨_, rfl, rfl⟩
              | false =>
                have HRD : Aside0 ((if hexes s 4 (p + 2) && isRune (hexNum s 4 (p + 2) 0) then some (p + 6) else none) = R) := ⟨by rw [← HR.out]; exact (esx_u hsz HS.out (by rw [h120, h88]; rfl) h117).symm⟩
                have hwd := iwrap (p + 2 + 4) (by omega) (by omega)
                by_cases hlen : (s.size : Int) < p + 2 + 4
                · have hdl : decide ((s.size : Int) < p + 2 + 4) = true := decide_eq_true hlen
                  have HNX : Aside0 (hexes s 4 (p + 2) = false) := ⟨by rw [← Bool.not_eq_true]; intro hx; have := hexes_in s 4 (p + 2) (by omega) (by omega) hx; omega⟩
                  have hres : Aside0 (R = none) := ⟨by rw [← HRD.out, HNX.out]; rfl⟩
                  go_wp2_with (first | (go_at_call 60; (with_reducible refine (specHex_c _ _ hb0 hb1).mono ?_); rintro e w' ⟨rfl, hw'⟩; obtain rfl := hw'.symm))
                  (try simp only [Exit.inBlock, Exit.then]); refine bodyPost_ret (results_tmp3 rfl _ _ _ rfl rfl rfl) rfl ?_
                  rw [hres.out]
                  exact ⟨_, rfl, rfl⟩
                · have hdl : decide ((s.size : Int) < p + 2 + 4) = false := decide_eq_false hlen
                  go_wp2_with (first | (go_at_call 60; (with_reducible refine (specHex_c _ _ hb0 hb1).mono ?_); rintro e w' ⟨rfl, hw'⟩; obtain rfl := hw'.symm))
                  go_loopg [11, 14] 5 (fun kq v11 v14 wr => ∃ (k : Nat) (n : Int), v11 = .int .i64 n ∧ v14 = .int .i64 (p + 2 + (k : Int)) ∧ Aside0 (k ≤ 4 ∧ hexes s 4 (p + 2) = hexes s (4 - k) (p + 2 + k) ∧ hexNum s 4 (p + 2) 0 = hexNum s (4 - k) (p + 2 + k) n ∧ 4 - k < kq) ∧ Aside0 (0 ≤ n ∧ n + 1 ≤ (16 : Int) ^ k) ∧ wr = w)
                  case atStart => exact ⟨0, 0, rfl, by simp, ⟨by omega, by simp, by simp, by omega⟩, ⟨by omega, by simp⟩, rfl⟩
                  case round =>
                    obtain ⟨k, n, rfl, rfl, HA, HN, hwr⟩ := hrel
                    obtain rfl := hwr.symm
                    have k1 := HA.out.1
                    have n0 := HN.out.1
                    have nX := HN.out.2
                    have nB := pow16 k (by omega)
                    have hwk := iwrap (p + 2 + (k : Int) + 1) (by omega) (by omega)
                    by_cases hk : (k : Int) < 4
                    · have hdk : decide (p + 2 + (k : Int) < p + 2 + 4) = true := decide_eq_true (by omega)
                      have hx := bt_at s (p + 2 + (k : Int))
                      have j0 : 0 ≤ p + 2 + (k : Int) := by omega
                      have j1 : p + 2 + (k : Int) < (s.size : Int) := by omega
                      have hb0 := (bt_range s (p + 2 + (k : Int))).1
                      have hb1 : bt s (p + 2 + (k : Int)) ≤ 255 := by have := (bt_range s (p + 2 + (k : Int))).2; omega
                      obtain ⟨m, hm⟩ : ∃ m, 4 - k = m + 1 := ⟨4 - k - 1, by omega⟩
                      have hm2 : 4 - (k + 1) = m := by omega
                      have hpk : p + 2 + ((k + 1 : Nat) : Int) = p + 2 + (k : Int) + 1 := by push_cast; omega
                      have HM := Aside0.mk hm
                      clear hm
                      cases hg : isHex (bt s (p + 2 + (k : Int))) with
                      | false =>
                        have hv : decide (hexVal (bt s (p + 2 + (k : Int))) < 0) = true := decide_eq_true (hexVal_no hg)
                        have HNX : Aside0 (hexes s 4 (p + 2) = false) := ⟨by rw [HA.out.2.1, HM.out]; simp only [hexes, hg, Bool.false_and]⟩
                        have hres : Aside0 (R = none) := ⟨by rw [← HRD.out, HNX.out]; rfl⟩
                        go_wp2_with (first | (go_at_call 60; (with_reducible refine (specHex_c _ _ hb0 hb1).mono ?_); rintro e w' ⟨rfl, hw'⟩; obtain rfl := hw'.symm))
                        (try simp only [Exit.inBlock, Exit.then]); refine bodyPost_ret (results_tmp3 rfl _ _ _ rfl rfl rfl) rfl ?_
                        rw [hres.out]
                        exact ⟨_, rfl, rfl⟩
                      | true =>
                        have hv0 := hexVal_yes hg
                        have hv1 := (hexVal_range hg).2
                        have hv : decide (hexVal (bt s (p + 2 + (k : Int))) < 0) = false := decide_eq_false (by omega)
                        have hw16 := iwrap (16 * n) (by omega) (by omega)
                        have hw17 := iwrap (16 * n + hexVal (bt s (p + 2 + (k : Int)))) (by omega) (by omega)
                        have HG := Aside0.mk hg
                        clear hg
                        have HV := Aside0.mk (And.intro hv0 hv1)
                        have HNN := Aside0.mk (And.intro n0 nX)
                        clear nX nB hv0 hv1 HN n0
                        go_wp2_with (first | (go_at_call 60; (with_reducible refine (specHex_c _ _ hb0 hb1).mono ?_); rintro e w' ⟨rfl, hw'⟩; obtain rfl := hw'.symm))
                        go_roundg (4 - k)
                        case measure => have := HA.out.2.2.2; omega
                        case rel => exact ⟨k + 1, _, rfl, by rw [hpk], ⟨by omega, by rw [hm2, hpk, HA.out.2.1, HM.out]; simp only [hexes, HG.out, Bool.true_and], by rw [hm2, hpk, HA.out.2.2.1, HM.out]; rfl, by omega⟩, ⟨by have := HNN.out.1; have := HV.out.1; omega, by rw [Int.pow_succ]; have := HNN.out.2; have := HV.out.2; omega⟩, rfl⟩
                    · have hdk : decide (p + 2 + (k : Int) < p + 2 + 4) = false := decide_eq_false (by omega)
                      have hkd : 4 - k = 0 := by omega
                      have HX1 : Aside0 (hexes s 4 (p + 2) = true) := ⟨by rw [HA.out.2.1, hkd]; rfl⟩
                      have HX2 : Aside0 (hexNum s 4 (p + 2) 0 = n) := ⟨by rw [HA.out.2.2.1, hkd]; rfl⟩
                      clear nX nB hkd
                      by_cases hr1 : 1114111 < n
                      · have hd1 : decide (1114111 < n) = true := decide_eq_true hr1
                        have hres : Aside0 (R = none) := ⟨by rw [← HRD.out, HX1.out, HX2.out]; unfold isRune; rw [decide_eq_false (show ¬ n ≤ 1114111 by omega)]; rfl⟩
                        go_wp2_with (first | (go_at_call 60; (with_reducible refine (specHex_c _ _ hb0 hb1).mono ?_); rintro e w' ⟨rfl, hw'⟩; obtain rfl := hw'.symm))
                        (try simp only [Exit.inBlock, Exit.then]); refine bodyPost_ret (results_tmp3 rfl _ _ _ rfl rfl rfl) rfl ?_
                        rw [hres.out]
                        exact ⟨_, rfl, rfl⟩
                      have hd1 : decide (1114111 < n) = false := decide_eq_false hr1
                      by_cases hr2 : 55296 ≤ n
                      · have hd2 : decide (55296 ≤ n) = true := decide_eq_true hr2
                        by_cases hr3 : n < 57344
                        · have hd3 : decide (n < 57344) = true := decide_eq_true hr3
                          have hres : Aside0 (R = none) := ⟨by rw [← HRD.out, HX1.out, HX2.out]; unfold isRune; rw [decide_eq_true (show 55296 ≤ n by omega), decide_eq_true (show n ≤ 57343 by omega), Bool.and_self, Bool.not_true, Bool.and_false]; rfl⟩
                          go_wp2_with (first | (go_at_call 60; (with_reducible refine (specHex_c _ _ hb0 hb1).mono ?_); rintro e w' ⟨rfl, hw'⟩; obtain rfl := hw'.symm))
                          (try simp only [Exit.inBlock, Exit.then]); refine bodyPost_ret (results_tmp3 rfl _ _ _ rfl rfl rfl) rfl ?_
                          rw [hres.out]
                          exact ⟨_, rfl, rfl⟩
                        have hd3 : decide (n < 57344) = false := decide_eq_false hr3
                        have hres : Aside0 (R = some (p + 6)) := ⟨by rw [← HRD.out, HX1.out, HX2.out]; unfold isRune; rw [decide_eq_true (show n ≤ 1114111 by omega), decide_eq_true (show 55296 ≤ n by omega), decide_eq_false (show ¬ n ≤ 57343 by omega)]; rfl⟩
                        have hes := encode_size n
                        have hqq : p + 2 + 4 = p + 6 := by omega
                        have hi32 : IntKind.i32.wrap n = n := by first | exact i32wrap n (by omega) (by omega)
                        have hcv := Lib.run_convert_string_bytes (P := Tryz.prog) w 9 50 5 (Utf8.encode n) Tryz.underlying9 Tryz.underlying50 Tryz.underlying5
                        have HO := Aside0.mk (own_conv w (Utf8.encode n) (by omega))
                        have HB := Aside0.mk (below_conv w (Utf8.encode n))
                        have hc2 : (convert 21 9 (.int .i32 n)).run Tryz.prog w = .ok (.string (Utf8.encode n)) w := run_convert_int_string w 21 9 .i32 n (by rw [Tryz.underlying21]; rfl) Tryz.underlying9
                        generalize hEE : Utf8.encode n = ee at *
                        go_wp2_with (first | (go_at_call 60; (with_reducible refine (specHex_c _ _ hb0 hb1).mono ?_); rintro e w' ⟨rfl, hw'⟩; obtain rfl := hw'.symm))
                        (try simp only [Exit.inBlock, Exit.then]); refine bodyPost_ret (results_tmp3 rfl _ _ _ rfl rfl rfl) rfl ?_
                        rw [hres.out]
                        exact ⟨_, _, _, _, by first | rfl | (rw [hqq]), HO.out, List.length_map _, hes.1, hes.2, HB.out⟩
                      · have hd2 : decide (55296 ≤ n) = false := decide_eq_false hr2
                        have hres : Aside0 (R = some (p + 6)) := ⟨by rw [← HRD.out, HX1.out, HX2.out]; unfold isRune; rw [decide_eq_true (show n ≤ 1114111 by omega), decide_eq_false (show ¬ 55296 ≤ n by omega)]; rfl⟩
                        have hes := encode_size n
                        have hqq : p + 2 + 4 = p + 6 := by omega
                        have hi32 : IntKind.i32.wrap n = n := by first | exact i32wrap n (by omega) (by omega)
                        have hcv := Lib.run_convert_string_bytes (P := Tryz.prog) w 9 50 5 (Utf8.encode n) Tryz.underlying9 Tryz.underlying50 Tryz.underlying5
                        have HO := Aside0.mk (own_conv w (Utf8.encode n) (by omega))
                        have HB := Aside0.mk (below_conv w (Utf8.encode n))
                        have hc2 : (convert 21 9 (.int .i32 n)).run Tryz.prog w = .ok (.string (Utf8.encode n)) w := run_convert_int_string w 21 9 .i32 n (by rw [Tryz.underlying21]; rfl) Tryz.underlying9
                        generalize hEE : Utf8.encode n = ee at *
                        go_wp2_with (first | (go_at_call 60; (with_reducible refine (specHex_c _ _ hb0 hb1).mono ?_); rintro e w' ⟨rfl, hw'⟩; obtain rfl := hw'.symm))
                        (try simp only [Exit.inBlock, Exit.then]); refine bodyPost_ret (results_tmp3 rfl _ _ _ rfl rfl rfl) rfl ?_
                        rw [hres.out]
                        exact ⟨_, _, _, _, by first | rfl | (rw [hqq]), HO.out, List.length_map _, hes.1, hes.2, HB.out⟩
            | false =>
              cases h85 : (bt s (p + 1) == 85) with
              | true =>
                have hoc' : 48 ≤ bt s (p + 1) ∧ decide (bt s (p + 1) ≤ 51) = false := by rw [beq_iff_eq.1 h85]; decide
                obtain ⟨hoc1, hoc2⟩ := hoc'
                clear hoc
                cases bytes with
                | true =>
                  have hres : Aside0 (R = none) := ⟨by rw [← HR.out]; exact esc_other hsz HS.out (by rw [h120, h88]; rfl) (by rw [Bool.not_true, Bool.and_false]) (by rw [Bool.not_true, Bool.and_false]) HNO.out⟩
                  go_wp2_with (first | (go_at_call 60; (with_reducible refine (specHex_c _ _ hb0 hb1).mono ?_); rintro e w' ⟨rfl, hw'⟩; obtain rfl := hw'.symm))
                  (try simp only [Exit.inBlock, Exit.then]); refine bodyPost_ret (results_tmp3 rfl _ _ _ rfl rfl rfl) rfl ?_
                  rw [hres.out]
                  exact ⟨_, rfl, rfl⟩
                | false =>
                  have HRD : Aside0 ((if hexes s 8 (p + 2) && isRune (hexNum s 8 (p + 2) 0) then some (p + 10) else none) = R) := ⟨by rw [← HR.out]; exact (esx_U hsz HS.out (by rw [h120, h88]; rfl) h117 h85).symm⟩
                  have hwd := iwrap (p + 2 + 8) (by omega) (by omega)
                  by_cases hlen : (s.size : Int) < p + 2 + 8
                  · have hdl : decide ((s.size : Int) < p + 2 + 8) = true := decide_eq_true hlen
                    have HNX : Aside0 (hexes s 8 (p + 2) = false) := ⟨by rw [← Bool.not_eq_true]; intro hx; have := hexes_in s 8 (p + 2) (by omega) (by omega) hx; omega⟩
                    have hres : Aside0 (R = none) := ⟨by rw [← HRD.out, HNX.out]; rfl⟩
                    go_wp2_with (first | (go_at_call 60; (with_reducible refine (specHex_c _ _ hb0 hb1).mono ?_); rintro e w' ⟨rfl, hw'⟩; obtain rfl := hw'.symm))
                    (try simp only [Exit.inBlock, Exit.then]); refine bodyPost_ret (results_tmp3 rfl _ _ _ rfl rfl rfl) rfl ?_
                    rw [hres.out]
                    exact ⟨_, rfl, rfl⟩
                  · have hdl : decide ((s.size : Int) < p + 2 + 8) = false := decide_eq_false hlen
                    go_wp2_with (first | (go_at_call 60; (with_reducible refine (specHex_c _ _ hb0 hb1).mono ?_); rintro e w' ⟨rfl, hw'⟩; obtain rfl := hw'.symm))
                    go_loopg [11, 14] 9 (fun kq v11 v14 wr => ∃ (k : Nat) (n : Int), v11 = .int .i64 n ∧ v14 = .int .i64 (p + 2 + (k : Int)) ∧ Aside0 (k ≤ 8 ∧ hexes s 8 (p + 2) = hexes s (8 - k) (p + 2 + k) ∧ hexNum s 8 (p + 2) 0 = hexNum s (8 - k) (p + 2 + k) n ∧ 8 - k < kq) ∧ Aside0 (0 ≤ n ∧ n + 1 ≤ (16 : Int) ^ k) ∧ wr = w)
                    case atStart => exact ⟨0, 0, rfl, by simp, ⟨by omega, by simp, by simp, by omega⟩, ⟨by omega, by simp⟩, rfl⟩
                    case round =>
                      obtain ⟨k, n, rfl, rfl, HA, HN, hwr⟩ := hrel
                      obtain rfl := hwr.symm
                      have k1 := HA.out.1
                      have n0 := HN.out.1
                      have nX := HN.out.2
                      have nB := pow16 k (by omega)
                      have hwk := iwrap (p + 2 + (k : Int) + 1) (by omega) (by omega)
                      by_cases hk : (k : Int) < 8
                      · have hdk : decide (p + 2 + (k : Int) < p + 2 + 8) = true := decide_eq_true (by omega)
                        have hx := bt_at s (p + 2 + (k : Int))
                        have j0 : 0 ≤ p + 2 + (k : Int) := by omega
                        have j1 : p + 2 + (k : Int) < (s.size : Int) := by omega
                        have hb0 := (bt_range s (p + 2 + (k : Int))).1
                        have hb1 : bt s (p + 2 + (k : Int)) ≤ 255 := by have := (bt_range s (p + 2 + (k : Int))).2; omega
                        obtain ⟨m, hm⟩ : ∃ m, 8 - k = m + 1 := ⟨8 - k - 1, by omega⟩
                        have hm2 : 8 - (k + 1) = m := by omega
                        have hpk : p + 2 + ((k + 1 : Nat) : Int) = p + 2 + (k : Int) + 1 := by push_cast; omega
                        have HM := Aside0.mk hm
                        clear hm
                        cases hg : isHex (bt s (p + 2 + (k : Int))) with
                        | false =>
                          have hv : decide (hexVal (bt s (p + 2 + (k : Int))) < 0) = true := decide_eq_true (hexVal_no hg)
                          have HNX : Aside0 (hexes s 8 (p + 2) = false) := ⟨by rw [HA.out.2.1, HM.out]; simp only [hexes, hg, Bool.false_and]⟩
                          have hres : Aside0 (R = none) := ⟨by rw [← HRD.out, HNX.out]; rfl⟩
                          go_wp2_with (first | (go_at_call 60; (with_reducible refine (specHex_c _ _ hb0 hb1).mono ?_); rintro e w' ⟨rfl, hw'⟩; obtain rfl := hw'.symm))
                          (try simp only [Exit.inBlock, Exit.then]); refine bodyPost_ret (results_tmp3 rfl _ _ _ rfl rfl rfl) rfl ?_
                          rw [hres.out]
                          exact ⟨_, rfl, rfl⟩
                        | true =>
                          have hv0 := hexVal_yes hg
                          have hv1 := (hexVal_range hg).2
                          have hv : decide (hexVal (bt s (p + 2 + (k : Int))) < 0) = false := decide_eq_false (by omega)
                          have hw16 := iwrap (16 * n) (by omega) (by omega)
                          have hw17 := iwrap (16 * n + hexVal (bt s (p + 2 + (k : Int)))) (by omega) (by omega)
                          have HG := Aside0.mk hg
                          clear hg
                          have HV := Aside0.mk (And.intro hv0 hv1)
                          have HNN := Aside0.mk (And.intro n0 nX)
                          clear nX nB hv0 hv1 HN n0
                          go_wp2_with (first | (go_at_call 60; (with_reducible refine (specHex_c _ _ hb0 hb1).mono ?_); rintro e w' ⟨rfl, hw'⟩; obtain rfl := hw'.symm))
                          go_roundg (8 - k)
                          case measure => have := HA.out.2.2.2; omega
                          case rel => exact ⟨k + 1, _, rfl, by rw [hpk], ⟨by omega, by rw [hm2, hpk, HA.out.2.1, HM.out]; simp only [hexes, HG.out, Bool.true_and], by rw [hm2, hpk, HA.out.2.2.1, HM.out]; rfl, by omega⟩, ⟨by have := HNN.out.1; have := HV.out.1; omega, by rw [Int.pow_succ]; have := HNN.out.2; have := HV.out.2; omega⟩, rfl⟩
                      · have hdk : decide (p + 2 + (k : Int) < p + 2 + 8) = false := decide_eq_false (by omega)
                        have hkd : 8 - k = 0 := by omega
                        have HX1 : Aside0 (hexes s 8 (p + 2) = true) := ⟨by rw [HA.out.2.1, hkd]; rfl⟩
                        have HX2 : Aside0 (hexNum s 8 (p + 2) 0 = n) := ⟨by rw [HA.out.2.2.1, hkd]; rfl⟩
                        clear nX nB hkd
                        by_cases hr1 : 1114111 < n
                        · have hd1 : decide (1114111 < n) = true := decide_eq_true hr1
                          have hres : Aside0 (R = none) := ⟨by rw [← HRD.out, HX1.out, HX2.out]; unfold isRune; rw [decide_eq_false (show ¬ n ≤ 1114111 by omega)]; rfl⟩
                          go_wp2_with (first | (go_at_call 60; (with_reducible refine (specHex_c _ _ hb0 hb1).mono ?_); rintro e w' ⟨rfl, hw'⟩; obtain rfl := hw'.symm))
                          (try simp only [Exit.inBlock, Exit.then]); refine bodyPost_ret (results_tmp3 rfl _ _ _ rfl rfl rfl) rfl ?_
                          rw [hres.out]
                          exact ⟨_, rfl, rfl⟩
                        have hd1 : decide (1114111 < n) = false := decide_eq_false hr1
                        by_cases hr2 : 55296 ≤ n
                        · have hd2 : decide (55296 ≤ n) = true := decide_eq_true hr2
                          by_cases hr3 : n < 57344
                          · have hd3 : decide (n < 57344) = true := decide_eq_true hr3
                            have hres : Aside0 (R = none) := ⟨by rw [← HRD.out, HX1.out, HX2.out]; unfold isRune; rw [decide_eq_true (show 55296 ≤ n by omega), decide_eq_true (show n ≤ 57343 by omega), Bool.and_self, Bool.not_true, Bool.and_false]; rfl⟩
                            go_wp2_with (first | (go_at_call 60; (with_reducible refine (specHex_c _ _ hb0 hb1).mono ?_); rintro e w' ⟨rfl, hw'⟩; obtain rfl := hw'.symm))
                            (try simp only [Exit.inBlock, Exit.then]); refine bodyPost_ret (results_tmp3 rfl _ _ _ rfl rfl rfl) rfl ?_
                            rw [hres.out]
                            exact ⟨_, rfl, rfl⟩
                          have hd3 : decide (n < 57344) = false := decide_eq_false hr3
                          have hres : Aside0 (R = some (p + 10)) := ⟨by rw [← HRD.out, HX1.out, HX2.out]; unfold isRune; rw [decide_eq_true (show n ≤ 1114111 by omega), decide_eq_true (show 55296 ≤ n by omega), decide_eq_false (show ¬ n ≤ 57343 by omega)]; rfl⟩
                          have hes := encode_size n
                          have hqq : p + 2 + 8 = p + 10 := by omega
                          have hi32 : IntKind.i32.wrap n = n := by first | exact i32wrap n (by omega) (by omega)
                          have hcv := Lib.run_convert_string_bytes (P := Tryz.prog) w 9 50 5 (Utf8.encode n) Tryz.underlying9 Tryz.underlying50 Tryz.underlying5
                          have HO := Aside0.mk (own_conv w (Utf8.encode n) (by omega))
                          have HB := Aside0.mk (below_conv w (Utf8.encode n))
                          have hc2 : (convert 21 9 (.int .i32 n)).run Tryz.prog w = .ok (.string (Utf8.encode n)) w := run_convert_int_string w 21 9 .i32 n (by rw [Tryz.underlying21]; rfl) Tryz.underlying9
                          generalize hEE : Utf8.encode n = ee at *
                          go_wp2_with (first | (go_at_call 60; (with_reducible refine (specHex_c _ _ hb0 hb1).mono ?_); rintro e w' ⟨rfl, hw'⟩; obtain rfl := hw'.symm))
                          (try simp only [Exit.inBlock, Exit.then]); refine bodyPost_ret (results_tmp3 rfl _ _ _ rfl rfl rfl) rfl ?_
                          rw [hres.out]
                          exact ⟨_, _, _, _, by first | rfl | (rw [hqq]), HO.out, List.length_map _, hes.1, hes.2, HB.out⟩
                        · have hd2 : decide (55296 ≤ n) = false := decide_eq_false hr2
                          have hres : Aside0 (R = some (p + 10)) := ⟨by rw [← HRD.out, HX1.out, HX2.out]; unfold isRune; rw [decide_eq_true (show n ≤ 1114111 by omega), decide_eq_false (show ¬ 55296 ≤ n by omega)]; rfl⟩
                          have hes := encode_size n
                          have hqq : p + 2 + 8 = p + 10 := by omega
                          have hi32 : IntKind.i32.wrap n = n := by first | exact i32wrap n (by omega) (by omega)
                          have hcv := Lib.run_convert_string_bytes (P := Tryz.prog) w 9 50 5 (Utf8.encode n) Tryz.underlying9 Tryz.underlying50 Tryz.underlying5
                          have HO := Aside0.mk (own_conv w (Utf8.encode n) (by omega))
                          have HB := Aside0.mk (below_conv w (Utf8.encode n))
                          have hc2 : (convert 21 9 (.int .i32 n)).run Tryz.prog w = .ok (.string (Utf8.encode n)) w := run_convert_int_string w 21 9 .i32 n (by rw [Tryz.underlying21]; rfl) Tryz.underlying9
                          generalize hEE : Utf8.encode n = ee at *
                          go_wp2_with (first | (go_at_call 60; (with_reducible refine (specHex_c _ _ hb0 hb1).mono ?_); rintro e w' ⟨rfl, hw'⟩; obtain rfl := hw'.symm))
                          (try simp only [Exit.inBlock, Exit.then]); refine bodyPost_ret (results_tmp3 rfl _ _ _ rfl rfl rfl) rfl ?_
                          rw [hres.out]
                          exact ⟨_, _, _, _, by first | rfl | (rw [hqq]), HO.out, List.length_map _, hes.1, hes.2, HB.out⟩
              | false =>
                rcases hoc with hoc1 | ⟨hoc1, hoc2⟩
                all_goals
                  have hres : Aside0 (R = none) := ⟨by rw [← HR.out]; exact esc_other hsz HS.out (by rw [h120, h88]; rfl) (by rw [h117]; rfl) (by rw [h85]; rfl) HNO.out⟩
                  go_wp2_with (first | (go_at_call 60; (with_reducible refine (specHex_c _ _ hb0 hb1).mono ?_); rintro e w' ⟨rfl, hw'⟩; obtain rfl := hw'.symm))
                  (try simp only [Exit.inBlock, Exit.then]); refine bodyPost_ret (results_tmp3 rfl _ _ _ rfl rfl rfl) rfl ?_
                  rw [hres.out]
                  exact ⟨_, rfl, rfl⟩
  · have hds : decide ((s.size : Int) ≤ p + 1) = true := decide_eq_true (by omega)
    have hres : Aside0 (R = none) := ⟨by rw [← HR.out]; unfold esc; rw [if_pos (by omega)]⟩
    go_wp2
    (try simp only [Exit.inBlock, Exit.then]); refine bodyPost_ret (results_tmp3 rfl _ _ _ rfl rfl rfl) rfl ?_
    rw [hres.out]
    exact ⟨_, rfl, rfl⟩
end Go.Proofs.YtjepdlmcombmcaaGreatDoor.Lx
