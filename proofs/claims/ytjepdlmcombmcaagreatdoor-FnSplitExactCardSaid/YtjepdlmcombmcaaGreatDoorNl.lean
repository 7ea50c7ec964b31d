/- Digits: what ParseUint returns at bases 16 and 8. Conditions: the text holds digits alone, up to eight; their number is small. -/
import Derived.Test.YtjepdlmcombmcaaGreatDoorNi
import Derived.Test.YtjepdlmcombmcaaGreatDoorGa
namespace Go.Proofs.YtjepdlmcombmcaaGreatDoor.Lx
open Go.RowKit Go.Proofs.YtjepdlmcombmcaaGreatDoorW.PrintWords

/-- The number that k digits from i on make at base m, behind the number n. -/
def numB (m : Int) (s : ByteArray) : Nat → Int → Int → Int
  | 0, _, n => n
  | k + 1, i, n => numB m s k (i + 1) (m * n + hexVal (bt s i))
theorem hexVal_range {c : Int} (h : isHex c = true) : 0 ≤ hexVal c ∧ hexVal c ≤ 15 := by
  have h1 : 48 ≤ c ∧ c ≤ 57 ∨ 97 ≤ c ∧ c ≤ 102 ∨ 65 ≤ c ∧ c ≤ 70 := of_decide_eq_true h
  unfold hexVal
  (repeat' split) <;> omega
theorem numB_ge (m : Int) (s : ByteArray) (hm : 1 ≤ m) : ∀ (k : Nat) (i n : Int), 0 ≤ n → 0 ≤ i → i + k ≤ (s.size : Int) → (∀ j : Int, 0 ≤ j → j < (s.size : Int) → isHex (bt s j) = true) → n ≤ numB m s k i n := by
  intro k
  induction k with
  | zero => intro i n _ _ _ _; exact Int.le_refl _
  | succ k ih =>
    intro i n h0 hi hk hd
    have h1 := hexVal_range (hd i hi (by omega))
    have h2 : 0 ≤ (m - 1) * n := Int.mul_nonneg (by omega) h0
    have h3 : m * n = (m - 1) * n + n := by rw [Int.sub_mul]; omega
    have h4 := ih (i + 1) (m * n + hexVal (bt s i)) (by omega) (by omega) (by omega) hd
    show n ≤ numB m s k (i + 1) (m * n + hexVal (bt s i))
    omega
theorem lower_c (c : Int) (w : World) (h : 97 ≤ c ∧ c ≤ 102 ∨ 65 ≤ c ∧ c ≤ 70) :
    Calls Tryz.prog 148 #[.int .u8 c] w fun e w' => e = .returned (.int .u8 (if 97 ≤ c then c else c + 32)) ∧ w' = w := by
  have hc : c = 97 ∨ c = 98 ∨ c = 99 ∨ c = 100 ∨ c = 101 ∨ c = 102 ∨ c = 65 ∨ c = 66 ∨ c = 67 ∨ c = 68 ∨ c = 69 ∨ c = 70 := by omega
  clear h
  rcases hc with rfl | rfl | rfl | rfl | rfl | rfl | rfl | rfl | rfl | rfl | rfl | rfl
  all_goals
    go_enter Tryz.func148, Tryz.ntmps148
    go_wp2
    go_ret
    exact ⟨rfl, rfl⟩
theorem lower_lo (c : Int) (w : World) (h : 97 ≤ c ∧ c ≤ 102) : Calls Tryz.prog 148 #[.int .u8 c] w fun e w' => e = .returned (.int .u8 c) ∧ w' = w := by
  have := lower_c c w (.inl h)
  rwa [if_pos h.1] at this
theorem lower_up (c : Int) (w : World) (h : 65 ≤ c ∧ c ≤ 70) : Calls Tryz.prog 148 #[.int .u8 c] w fun e w' => e = .returned (.int .u8 (c + 32)) ∧ w' = w := by
  have := lower_c c w (.inr h)
  rwa [if_neg (by omega)] at this

set_option maxRecDepth 100000 in
set_option maxHeartbeats 2000000 in
theorem parse16_8 (t : ByteArray) (w : World) (h0 : 0 < t.size) (h1 : t.size ≤ 8) (hd : ∀ j : Int, 0 ≤ j → j < (t.size : Int) → isHex (bt t j) = true ∧ hexVal (bt t j) < 16) (hv : numB 16 t t.size 0 0 ≤ 255) :
    Calls Tryz.prog 130 #[.string t, .int .i64 16, .int .i64 8] w fun e w' => e = .returned (.tuple #[.int .u64 (numB 16 t t.size 0 0), .nilIface]) ∧ Below w.heap.size w w' := by
  have hne := ne_empty h0
  have hne2 : (t.toList == []) = false := by
    cases hl : t.toList with
    | nil => rw [hl] at hne; cases hne
    | cons a b => rfl
  obtain ⟨V, hV⟩ : ∃ V, numB 16 t t.size 0 0 = V := ⟨_, rfl⟩
  rw [hV] at hv ⊢
  have HD := Aside0.mk hd
  have hcv := Lib.run_convert_string_bytes (P := Tryz.prog) w 9 50 5 t Tryz.underlying9 Tryz.underlying50 Tryz.underlying5
  have hOB := own_conv w t (by omega)
  have hBel := below_conv w t
  have hcell : ∀ j : Nat, j < t.size → (Lib.bytesWorld w 5 t).cell? ⟨w.heap.size, j, none⟩ = some (.int .u8 (bt t (j : Int))) := by
    obtain ⟨g, cap, hvv, hg, hgs, hc1, hc2, hcell, _⟩ := hOB.form
    injection hvv with e1 e2 e3
    injection e1 with e1
    injection e1 with e1
    intro j hj
    have hl : (t.data.toList.map fun b => (b.toNat : Int)).length = t.size := List.length_map _
    have h1 := (hcell j (by rw [hl]; exact hj)).1
    have h2 := nb_get t (j : Int) (by omega) (by omega)
    rw [Int.toNat_natCast] at h2
    unfold nb at h2
    rw [← e1] at h1
    rw [h1, List.getD_eq_getElem?_getD, h2]
    rfl
  have HC := Aside0.mk hcell
  clear hd hOB hcell
  generalize Lib.bytesWorld w 5 t = W1 at *
  have hB1 := hBel
  clear hBel
  go_enter Tryz.func130, Tryz.ntmps130
  go_wp2
  go_loopg [12, 13, 101] (t.size + 1) (fun kq v12 v13 v101 wr => ∃ (j : Nat) (n : Int), v12 = .bool false ∧ v13 = .int .u64 n ∧ v101 = .int .i64 j ∧ Aside0 (j ≤ t.size ∧ t.size - j < kq ∧ 0 ≤ n ∧ numB 16 t (t.size - j) j n = V) ∧ wr = W1)
  case atStart => exact ⟨0, 0, rfl, rfl, rfl, ⟨by omega, by omega, by omega, by simpa using hV⟩, rfl⟩
  case round =>
    obtain ⟨j, n, rfl, rfl, rfl, HA, rfl⟩ := hrel
    have j1 := HA.out.1
    have n0 := HA.out.2.2.1
    by_cases hj : (j : Int) < (t.size : Int)
    · have hdj : decide ((j : Int) < (t.size : Int)) = true := decide_eq_true hj
      obtain ⟨k, hk⟩ : ∃ k, t.size - j = k + 1 := ⟨t.size - j - 1, by omega⟩
      have hk2 : t.size - (j + 1) = k := by omega
      have hnum := HA.out.2.2.2
      rw [hk] at hnum
      simp only [numB] at hnum
      have hdig := HD.out j (by omega) hj
      have hval := hexVal_range hdig.1
      have hge := numB_ge 16 t (by omega) k (j + 1) (16 * n + hexVal (bt t j)) (by omega) (by omega) (by omega) (fun i h0 h1 => (HD.out i h0 h1).1)
      rw [hnum] at hge
      have hwj := iwrap ((j : Int) + 1) (by omega) (by omega)
      have c1 := HC.out j (by omega)
      have hx1 : 48 ≤ bt t j ∧ bt t j ≤ 57 ∨ 97 ≤ bt t j ∧ bt t j ≤ 102 ∨ 65 ≤ bt t j ∧ bt t j ≤ 70 := of_decide_eq_true hdig.1
      have n95 : (bt t j == 95) = false := beqf (by omega)
      have hdv := hdig.2
      have HN := Aside0.mk hnum
      clear hdig hnum
      have m1 : n * 16 % 18446744073709551616 = 16 * n := by omega
      have m2 : decide (1152921504606846976 ≤ n) = false := decide_eq_false (by omega)
      by_cases hx : bt t j ≤ 57
      · have hvd : hexVal (bt t j) = bt t j - 48 := by unfold hexVal; rw [if_pos (by omega)]
        have d1 : decide (48 ≤ bt t j) = true := decide_eq_true (by omega)
        have d2 : decide (bt t j ≤ 57) = true := decide_eq_true hx
        rw [hvd] at hdv hval hge HN
        clear hvd hx1
        go_wp2
        go_roundg (t.size - j)
        case measure => have := HA.out.2.1; omega
        case rel => exact ⟨j + 1, n * 16 + (bt t j - 48), rfl, rfl, rfl, ⟨by omega, by omega, by omega, by rw [hk2, Int.mul_comm]; exact HN.out⟩, rfl⟩
      · have hcl : 97 ≤ bt t j ∧ bt t j ≤ 102 ∨ 65 ≤ bt t j ∧ bt t j ≤ 70 := by omega
        have d2 : decide (bt t j ≤ 57) = false := decide_eq_false hx
        rcases hcl with hcl | hcl
        · have hvd : hexVal (bt t j) = bt t j - 87 := by unfold hexVal; rw [if_neg (by omega)]; rw [if_pos (by omega)]
          rw [hvd] at hdv hval hge HN
          have d1 : decide (48 ≤ bt t j) = true := decide_eq_true (by omega)
          have d3 : decide (97 ≤ bt t j) = true := decide_eq_true (by omega)
          have d4 : decide (bt t j ≤ 122) = true := decide_eq_true (by omega)
          clear hvd hx1
          go_wp2_with (first
            | (go_at_call 148; (with_reducible refine (lower_lo (bt t j) _ hcl).mono ?_); rintro e w' ⟨rfl, hw'⟩; obtain rfl := hw'.symm))
          go_roundg (t.size - j)
          case measure => have := HA.out.2.1; omega
          case rel => exact ⟨j + 1, _, rfl, rfl, rfl, ⟨by omega, by omega, by omega, by rw [hk2]; rw [← HN.out]; congr 1; omega⟩, rfl⟩
        · have hvd : hexVal (bt t j) = bt t j - 55 := by unfold hexVal; rw [if_neg (by omega)]; rw [if_neg (by omega), if_pos (by omega)]
          rw [hvd] at hdv hval hge HN
          have d1 : decide (48 ≤ bt t j) = true := decide_eq_true (by omega)
          have d3 : decide (97 ≤ bt t j + 32) = true := decide_eq_true (by omega)
          have d4 : decide (bt t j + 32 ≤ 122) = true := decide_eq_true (by omega)
          clear hvd hx1
          go_wp2_with (first
            | (go_at_call 148; (with_reducible refine (lower_up (bt t j) _ hcl).mono ?_); rintro e w' ⟨rfl, hw'⟩; obtain rfl := hw'.symm))
          go_roundg (t.size - j)
          case measure => have := HA.out.2.1; omega
          case rel => exact ⟨j + 1, _, rfl, rfl, rfl, ⟨by omega, by omega, by omega, by rw [hk2]; rw [← HN.out]; congr 1; omega⟩, rfl⟩
    · have hdj : decide ((j : Int) < (t.size : Int)) = false := decide_eq_false hj
      have hk0 : t.size - j = 0 := by omega
      have hn := HA.out.2.2.2
      rw [hk0] at hn
      have HN := Aside0.mk (show n = V from hn)
      clear hn
      go_wp2
      (try simp only [Exit.inBlock, Exit.then]); refine bodyPost_ret (results_tmp2 rfl _ _ _) rfl ?_
      exact ⟨by rw [← HN.out]; rfl, hB1⟩

theorem parseUint16_8 (t : ByteArray) (w : World) (h0 : 0 < t.size) (h1 : t.size ≤ 8) (hd : ∀ j : Int, 0 ≤ j → j < (t.size : Int) → isHex (bt t j) = true ∧ hexVal (bt t j) < 16) (hv : numB 16 t t.size 0 0 ≤ 255) :
    Calls Tryz.prog 110 #[.string t, .int .i64 16, .int .i64 8] w fun e w' => e = .returned (.tuple #[.int .u64 (numB 16 t t.size 0 0), .nilIface]) ∧ Below w.heap.size w w' := by
  go_enter Tryz.func110, Tryz.ntmps110
  go_wp2_with (first
    | (go_at_call 130; (with_reducible refine (parse16_8 t _ h0 h1 hd hv).mono ?_); rintro e w1 ⟨rfl, hb⟩))
  (try simp only [Exit.inBlock, Exit.then]); refine bodyPost_ret (results_tmp2 rfl _ _ _) rfl ?_
  exact ⟨rfl, hb⟩

set_option maxRecDepth 100000 in
set_option maxHeartbeats 2000000 in
theorem parse16_32 (t : ByteArray) (w : World) (h0 : 0 < t.size) (h1 : t.size ≤ 8) (hd : ∀ j : Int, 0 ≤ j → j < (t.size : Int) → isHex (bt t j) = true ∧ hexVal (bt t j) < 16) (hv : numB 16 t t.size 0 0 ≤ 4294967295) :
    Calls Tryz.prog 130 #[.string t, .int .i64 16, .int .i64 32] w fun e w' => e = .returned (.tuple #[.int .u64 (numB 16 t t.size 0 0), .nilIface]) ∧ Below w.heap.size w w' := by
  have hne := ne_empty h0
  have hne2 : (t.toList == []) = false := by
    cases hl : t.toList with
    | nil => rw [hl] at hne; cases hne
    | cons a b => rfl
  obtain ⟨V, hV⟩ : ∃ V, numB 16 t t.size 0 0 = V := ⟨_, rfl⟩
  rw [hV] at hv ⊢
  have HD := Aside0.mk hd
  have hcv := Lib.run_convert_string_bytes (P := Tryz.prog) w 9 50 5 t Tryz.underlying9 Tryz.underlying50 Tryz.underlying5
  have hOB := own_conv w t (by omega)
  have hBel := below_conv w t
  have hcell : ∀ j : Nat, j < t.size → (Lib.bytesWorld w 5 t).cell? ⟨w.heap.size, j, none⟩ = some (.int .u8 (bt t (j : Int))) := by
    obtain ⟨g, cap, hvv, hg, hgs, hc1, hc2, hcell, _⟩ := hOB.form
    injection hvv with e1 e2 e3
    injection e1 with e1
    injection e1 with e1
    intro j hj
    have hl : (t.data.toList.map fun b => (b.toNat : Int)).length = t.size := List.length_map _
    have h1 := (hcell j (by rw [hl]; exact hj)).1
    have h2 := nb_get t (j : Int) (by omega) (by omega)
    rw [Int.toNat_natCast] at h2
    unfold nb at h2
    rw [← e1] at h1
    rw [h1, List.getD_eq_getElem?_getD, h2]
    rfl
  have HC := Aside0.mk hcell
  clear hd hOB hcell
  generalize Lib.bytesWorld w 5 t = W1 at *
  have hB1 := hBel
  clear hBel
  go_enter Tryz.func130, Tryz.ntmps130
  go_wp2
  go_loopg [12, 13, 101] (t.size + 1) (fun kq v12 v13 v101 wr => ∃ (j : Nat) (n : Int), v12 = .bool false ∧ v13 = .int .u64 n ∧ v101 = .int .i64 j ∧ Aside0 (j ≤ t.size ∧ t.size - j < kq ∧ 0 ≤ n ∧ numB 16 t (t.size - j) j n = V) ∧ wr = W1)
  case atStart => exact ⟨0, 0, rfl, rfl, rfl, ⟨by omega, by omega, by omega, by simpa using hV⟩, rfl⟩
  case round =>
    obtain ⟨j, n, rfl, rfl, rfl, HA, rfl⟩ := hrel
    have j1 := HA.out.1
    have n0 := HA.out.2.2.1
    by_cases hj : (j : Int) < (t.size : Int)
    · have hdj : decide ((j : Int) < (t.size : Int)) = true := decide_eq_true hj
      obtain ⟨k, hk⟩ : ∃ k, t.size - j = k + 1 := ⟨t.size - j - 1, by omega⟩
      have hk2 : t.size - (j + 1) = k := by omega
      have hnum := HA.out.2.2.2
      rw [hk] at hnum
      simp only [numB] at hnum
      have hdig := HD.out j (by omega) hj
      have hval := hexVal_range hdig.1
      have hge := numB_ge 16 t (by omega) k (j + 1) (16 * n + hexVal (bt t j)) (by omega) (by omega) (by omega) (fun i h0 h1 => (HD.out i h0 h1).1)
      rw [hnum] at hge
      have hwj := iwrap ((j : Int) + 1) (by omega) (by omega)
      have c1 := HC.out j (by omega)
      have hx1 : 48 ≤ bt t j ∧ bt t j ≤ 57 ∨ 97 ≤ bt t j ∧ bt t j ≤ 102 ∨ 65 ≤ bt t j ∧ bt t j ≤ 70 := of_decide_eq_true hdig.1
      have n95 : (bt t j == 95) = false := beqf (by omega)
      have hdv := hdig.2
      have HN := Aside0.mk hnum
      clear hdig hnum
      have m1 : n * 16 % 18446744073709551616 = 16 * n := by omega
      have m2 : decide (1152921504606846976 ≤ n) = false := decide_eq_false (by omega)
      by_cases hx : bt t j ≤ 57
      · have hvd : hexVal (bt t j) = bt t j - 48 := by unfold hexVal; rw [if_pos (by omega)]
        have d1 : decide (48 ≤ bt t j) = true := decide_eq_true (by omega)
        have d2 : decide (bt t j ≤ 57) = true := decide_eq_true hx
        rw [hvd] at hdv hval hge HN
        clear hvd hx1
        go_wp2
        go_roundg (t.size - j)
        case measure => have := HA.out.2.1; omega
        case rel => exact ⟨j + 1, n * 16 + (bt t j - 48), rfl, rfl, rfl, ⟨by omega, by omega, by omega, by rw [hk2, Int.mul_comm]; exact HN.out⟩, rfl⟩
      · have hcl : 97 ≤ bt t j ∧ bt t j ≤ 102 ∨ 65 ≤ bt t j ∧ bt t j ≤ 70 := by omega
        have d2 : decide (bt t j ≤ 57) = false := decide_eq_false hx
        rcases hcl with hcl | hcl
        · have hvd : hexVal (bt t j) = bt t j - 87 := by unfold hexVal; rw [if_neg (by omega)]; rw [if_pos (by omega)]
          rw [hvd] at hdv hval hge HN
          have d1 : decide (48 ≤ bt t j) = true := decide_eq_true (by omega)
          have d3 : decide (97 ≤ bt t j) = true := decide_eq_true (by omega)
          have d4 : decide (bt t j ≤ 122) = true := decide_eq_true (by omega)
          clear hvd hx1
          go_wp2_with (first
            | (go_at_call 148; (with_reducible refine (lower_lo (bt t j) _ hcl).mono ?_); rintro e w' ⟨rfl, hw'⟩; obtain rfl := hw'.symm))
          go_roundg (t.size - j)
          case measure => have := HA.out.2.1; omega
          case rel => exact ⟨j + 1, _, rfl, rfl, rfl, ⟨by omega, by omega, by omega, by rw [hk2]; rw [← HN.out]; congr 1; omega⟩, rfl⟩
        · have hvd : hexVal (bt t j) = bt t j - 55 := by unfold hexVal; rw [if_neg (by omega)]; rw [if_neg (by omega), if_pos (by omega)]
          rw [hvd] at hdv hval hge HN
          have d1 : decide (48 ≤ bt t j) = true := decide_eq_true (by omega)
          have d3 : decide (97 ≤ bt t j + 32) = true := decide_eq_true (by omega)
          have d4 : decide (bt t j + 32 ≤ 122) = true := decide_eq_true (by omega)
          clear hvd hx1
          go_wp2_with (first
            | (go_at_call 148; (with_reducible refine (lower_up (bt t j) _ hcl).mono ?_); rintro e w' ⟨rfl, hw'⟩; obtain rfl := hw'.symm))
          go_roundg (t.size - j)
          case measure => have := HA.out.2.1; omega
          case rel => exact ⟨j + 1, _, rfl, rfl, rfl, ⟨by omega, by omega, by omega, by rw [hk2]; rw [← HN.out]; congr 1; omega⟩, rfl⟩
    · have hdj : decide ((j : Int) < (t.size : Int)) = false := decide_eq_false hj
      have hk0 : t.size - j = 0 := by omega
      have hn := HA.out.2.2.2
      rw [hk0] at hn
      have HN := Aside0.mk (show n = V from hn)
      clear hn
      go_wp2
      (try simp only [Exit.inBlock, Exit.then]); refine bodyPost_ret (results_tmp2 rfl _ _ _) rfl ?_
      exact ⟨by rw [← HN.out]; rfl, hB1⟩

theorem parseUint16_32 (t : ByteArray) (w : World) (h0 : 0 < t.size) (h1 : t.size ≤ 8) (hd : ∀ j : Int, 0 ≤ j → j < (t.size : Int) → isHex (bt t j) = true ∧ hexVal (bt t j) < 16) (hv : numB 16 t t.size 0 0 ≤ 4294967295) :
    Calls Tryz.prog 110 #[.string t, .int .i64 16, .int .i64 32] w fun e w' => e = .returned (.tuple #[.int .u64 (numB 16 t t.size 0 0), .nilIface]) ∧ Below w.heap.size w w' := by
  go_enter Tryz.func110, Tryz.ntmps110
  go_wp2_with (first
    | (go_at_call 130; (with_reducible refine (parse16_32 t _ h0 h1 hd hv).mono ?_); rintro e w1 ⟨rfl, hb⟩))
  (try simp only [Exit.inBlock, Exit.then]); refine bodyPost_ret (results_tmp2 rfl _ _ _) rfl ?_
  exact ⟨rfl, hb⟩

set_option maxRecDepth 100000 in
set_option maxHeartbeats 2000000 in
theorem parse8_8 (t : ByteArray) (w : World) (h0 : 0 < t.size) (h1 : t.size ≤ 8) (hd : ∀ j : Int, 0 ≤ j → j < (t.size : Int) → isHex (bt t j) = true ∧ hexVal (bt t j) < 8) (hv : numB 8 t t.size 0 0 ≤ 255) :
    Calls Tryz.prog 130 #[.string t, .int .i64 8, .int .i64 8] w fun e w' => e = .returned (.tuple #[.int .u64 (numB 8 t t.size 0 0), .nilIface]) ∧ Below w.heap.size w w' := by
  have hne := ne_empty h0
  have hne2 : (t.toList == []) = false := by
    cases hl : t.toList with
    | nil => rw [hl] at hne; cases hne
    | cons a b => rfl
  obtain ⟨V, hV⟩ : ∃ V, numB 8 t t.size 0 0 = V := ⟨_, rfl⟩
  rw [hV] at hv ⊢
  have HD := Aside0.mk hd
  have hcv := Lib.run_convert_string_bytes (P := Tryz.prog) w 9 50 5 t Tryz.underlying9 Tryz.underlying50 Tryz.underlying5
  have hOB := own_conv w t (by omega)
  have hBel := below_conv w t
  have hcell : ∀ j : Nat, j < t.size → (Lib.bytesWorld w 5 t).cell? ⟨w.heap.size, j, none⟩ = some (.int .u8 (bt t (j : Int))) := by
    obtain ⟨g, cap, hvv, hg, hgs, hc1, hc2, hcell, _⟩ := hOB.form
    injection hvv with e1 e2 e3
    injection e1 with e1
    injection e1 with e1
    intro j hj
    have hl : (t.data.toList.map fun b => (b.toNat : Int)).length = t.size := List.length_map _
    have h1 := (hcell j (by rw [hl]; exact hj)).1
    have h2 := nb_get t (j : Int) (by omega) (by omega)
    rw [Int.toNat_natCast] at h2
    unfold nb at h2
    rw [← e1] at h1
    rw [h1, List.getD_eq_getElem?_getD, h2]
    rfl
  have HC := Aside0.mk hcell
  clear hd hOB hcell
  generalize Lib.bytesWorld w 5 t = W1 at *
  have hB1 := hBel
  clear hBel
  go_enter Tryz.func130, Tryz.ntmps130
  go_wp2
  go_loopg [12, 13, 101] (t.size + 1) (fun kq v12 v13 v101 wr => ∃ (j : Nat) (n : Int), v12 = .bool false ∧ v13 = .int .u64 n ∧ v101 = .int .i64 j ∧ Aside0 (j ≤ t.size ∧ t.size - j < kq ∧ 0 ≤ n ∧ numB 8 t (t.size - j) j n = V) ∧ wr = W1)
  case atStart => exact ⟨0, 0, rfl, rfl, rfl, ⟨by omega, by omega, by omega, by simpa using hV⟩, rfl⟩
  case round =>
    obtain ⟨j, n, rfl, rfl, rfl, HA, rfl⟩ := hrel
    have j1 := HA.out.1
    have n0 := HA.out.2.2.1
    by_cases hj : (j : Int) < (t.size : Int)
    · have hdj : decide ((j : Int) < (t.size : Int)) = true := decide_eq_true hj
      obtain ⟨k, hk⟩ : ∃ k, t.size - j = k + 1 := ⟨t.size - j - 1, by omega⟩
      have hk2 : t.size - (j + 1) = k := by omega
      have hnum := HA.out.2.2.2
      rw [hk] at hnum
      simp only [numB] at hnum
      have hdig := HD.out j (by omega) hj
      have hval := hexVal_range hdig.1
      have hge := numB_ge 8 t (by omega) k (j + 1) (8 * n + hexVal (bt t j)) (by omega) (by omega) (by omega) (fun i h0 h1 => (HD.out i h0 h1).1)
      rw [hnum] at hge
      have hwj := iwrap ((j : Int) + 1) (by omega) (by omega)
      have c1 := HC.out j (by omega)
      have hx1 : 48 ≤ bt t j ∧ bt t j ≤ 57 ∨ 97 ≤ bt t j ∧ bt t j ≤ 102 ∨ 65 ≤ bt t j ∧ bt t j ≤ 70 := of_decide_eq_true hdig.1
      have n95 : (bt t j == 95) = false := beqf (by omega)
      have hdv := hdig.2
      have HN := Aside0.mk hnum
      clear hdig hnum
      have m1 : n * 8 % 18446744073709551616 = 8 * n := by omega
      have m2 : decide (2305843009213693952 ≤ n) = false := decide_eq_false (by omega)
      by_cases hx : bt t j ≤ 57
      · have hvd : hexVal (bt t j) = bt t j - 48 := by unfold hexVal; rw [if_pos (by omega)]
        have d1 : decide (48 ≤ bt t j) = true := decide_eq_true (by omega)
        have d2 : decide (bt t j ≤ 57) = true := decide_eq_true hx
        rw [hvd] at hdv hval hge HN
        clear hvd hx1
        go_wp2
        go_roundg (t.size - j)
        case measure => have := HA.out.2.1; omega
        case rel => exact ⟨j + 1, n * 8 + (bt t j - 48), rfl, rfl, rfl, ⟨by omega, by omega, by omega, by rw [hk2, Int.mul_comm]; exact HN.out⟩, rfl⟩
      · have hcl : 97 ≤ bt t j ∧ bt t j ≤ 102 ∨ 65 ≤ bt t j ∧ bt t j ≤ 70 := by omega
        exfalso
        unfold hexVal at hdv
        (repeat' split at hdv) <;> omega
    · have hdj : decide ((j : Int) < (t.size : Int)) = false := decide_eq_false hj
      have hk0 : t.size - j = 0 := by omega
      have hn := HA.out.2.2.2
      rw [hk0] at hn
      have HN := Aside0.mk (show n = V from hn)
      clear hn
      go_wp2
      (try simp only [Exit.inBlock, Exit.then]); refine bodyPost_ret (results_tmp2 rfl _ _ _) rfl ?_
      exact ⟨by rw [← HN.out]; rfl, hB1⟩

theorem parseUint8_8 (t : ByteArray) (w : World) (h0 : 0 < t.size) (h1 : t.size ≤ 8) (hd : ∀ j : Int, 0 ≤ j → j < (t.size : Int) → isHex (bt t j) = true ∧ hexVal (bt t j) < 8) (hv : numB 8 t t.size 0 0 ≤ 255) :
    Calls Tryz.prog 110 #[.string t, .int .i64 8, .int .i64 8] w fun e w' => e = .returned (.tuple #[.int .u64 (numB 8 t t.size 0 0), .nilIface]) ∧ Below w.heap.size w w' := by
  go_enter Tryz.func110, Tryz.ntmps110
  go_wp2_with (first
    | (go_at_call 130; (with_reducible refine (parse8_8 t _ h0 h1 hd hv).mono ?_); rintro e w1 ⟨rfl, hb⟩))
  (try simp only [Exit.inBlock, Exit.then]); refine bodyPost_ret (results_tmp2 rfl _ _ _) rfl ?_
  exact ⟨rfl, hb⟩
end Go.Proofs.YtjepdlmcombmcaaGreatDoor.Lx
