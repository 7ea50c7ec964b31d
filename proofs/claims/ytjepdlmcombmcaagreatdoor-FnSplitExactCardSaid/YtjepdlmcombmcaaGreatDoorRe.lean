/- The law's own small functions: brittle, padded, split, within; spec.Known. Conditions: the text is no longer than a million bytes. -/
import Derived.Test.YtjepdlmcombmcaaGreatDoorQk
namespace Go.Proofs.YtjepdlmcombmcaaGreatDoor.Lx
open Go.RowKit Go.Proofs.YtjepdlmcombmcaaGreatDoorW.PrintWords

theorem cut3x (s : ByteArray) (p : Int) (c d f : UInt8) (h0 : 0 ≤ p) (hp : p ≤ (s.size : Int)) (hc : c.toNat ≠ 0) (hd : d.toNat ≠ 0) (hf : f.toNat ≠ 0) : ((s.extract p.toNat (p + 3).toNat).toList == [c, d, f]) = (bt s p == (c.toNat : Int) && (bt s (p + 1) == (d.toNat : Int) && bt s (p + 2) == (f.toNat : Int))) := by
  have h := cut_is s ⟨#[c, d, f]⟩ p h0 hp (by
    intro j j0 j1
    have e : ((⟨#[c, d, f]⟩ : ByteArray).size : Int) = 3 := rfl
    have hj : j = 0 ∨ j = 1 ∨ j = 2 := by omega
    rcases hj with rfl | rfl | rfl
    · show ((c.toNat : Nat) : Int) ≠ 0
      omega
    · show ((d.toNat : Nat) : Int) ≠ 0
      omega
    · show ((f.toNat : Nat) : Int) ≠ 0
      omega)
  have e : ((⟨#[c, d, f]⟩ : ByteArray).size : Int) = 3 := rfl
  have e1 : (⟨#[c, d, f]⟩ : ByteArray).toList = [c, d, f] := ByteArray.toList_mk [c, d, f]
  rw [e] at h
  rw [← e1, list_beq, h]
  show ([0, 1, 2].all fun j : Nat => bt s (p + (j : Nat)) == bt ⟨#[c, d, f]⟩ (j : Nat)) = _
  simp only [List.all_cons, List.all_nil, Bool.and_true]
  show (bt s (p + 0) == (c.toNat : Int) && (bt s (p + 1) == (d.toNat : Int) && bt s (p + 2) == (f.toNat : Int))) = _
  rw [Int.add_zero]
theorem starts3x_c (s : ByteArray) (c d f : UInt8) (n m k p : Int) (w : World) (hn : (c.toNat : Int) = n) (hm : (d.toNat : Int) = m) (hk : (f.toNat : Int) = k) (hc : c.toNat ≠ 0) (hd : d.toNat ≠ 0) (hf : f.toNat ≠ 0) (h0 : 0 ≤ p) (h1 : p ≤ 1000002) (hs : (s.size : Int) ≤ 1000000) :
    Calls Tryz.prog 15 #[.string s, .int .i64 p, .string ⟨#[c, d, f]⟩] w fun e w' => e = .returned (.bool (bt s p == n && (bt s (p + 1) == m && bt s (p + 2) == k))) ∧ w' = w := by
  refine (starts_c s ⟨#[c, d, f]⟩ p w h0 h1 hs (by show 3 ≤ 4; omega)).mono ?_
  rintro e w' ⟨rfl, rfl⟩
  refine ⟨ret_bool ?_, rfl⟩
  have e1 : (⟨#[c, d, f]⟩ : ByteArray).toList = [c, d, f] := ByteArray.toList_mk [c, d, f]
  by_cases hp : p ≤ (s.size : Int)
  · rw [e1, decide_eq_true hp, Bool.true_and]
    show ((s.extract p.toNat (p + 3).toNat).toList == [c, d, f]) = _
    rw [cut3x s p c d f h0 hp hc hd hf, hn, hm, hk]
  · rw [decide_eq_false hp, Bool.false_and, bt_far s p (by omega)]
    rw [show ((0 : Int) == n) = false from beqf (by omega), Bool.false_and]
/-- A backslash stands among the last nine bytes. -/
def brit (s : ByteArray) : Bool := decide (run (fun c => c != 92) s (max 0 ((s.size : Int) - 9)) < (s.size : Int))
theorem brit_c (s : ByteArray) (w : World) (hs : (s.size : Int) ≤ 1000000) :
    Calls Tryz.prog 5 #[.string s] w fun e w' => e = .returned (.bool (brit s)) ∧ w' = w := by
  obtain ⟨R, hR⟩ : ∃ R, run (fun c => c != 92) s (max 0 ((s.size : Int) - 9)) = R := ⟨_, rfl⟩
  have HR := Aside0.mk hR
  have hb : brit s = decide (R < (s.size : Int)) := by unfold brit; rw [hR]
  rw [hb]
  clear hb hR
  have w1 := iwrap ((s.size : Int) - 9) (by omega) (by omega)
  go_enter Tryz.func5, Tryz.ntmps5
  go_wp2
  go_loopg [3] (s.size + 1) (fun kq v3 wr => ∃ i : Int, v3 = .int .i64 i ∧ Aside0 (0 ≤ i ∧ i ≤ (s.size : Int) ∧ run (fun c => c != 92) s i = R ∧ ((s.size : Int) - i).toNat < kq) ∧ wr = w)
  case atStart => exact ⟨_, rfl, ⟨by omega, by omega, HR.out, by omega⟩, rfl⟩
  case round =>
    obtain ⟨i, rfl, HA, hwr⟩ := hrel
    obtain rfl := hwr.symm
    have i0 := HA.out.1
    have i1 := HA.out.2.1
    have hw := iwrap (i + 1) (by omega) (by omega)
    by_cases hi : i < (s.size : Int)
    · have hd : decide (i < (s.size : Int)) = true := decide_eq_true hi
      have hx := bt_at s i
      cases hc : (bt s i == 92) with
      | true =>
        have hRi : Aside0 (R = i) := ⟨by rw [← HA.out.2.2.1]; exact run_stop (by rw [beq_iff_eq.1 hc]; rfl)⟩
        go_wp2
        go_ret
        exact ⟨ret_bool (by rw [hRi.out]; exact (decide_eq_true hi).symm), rfl⟩
      | false =>
        have HC := Aside0.mk (ne_of_beq_false hc)
        go_wp2
        go_roundg (((s.size : Int) - (i + 1)).toNat + 1)
        case measure => have := HA.out.2.2.2; omega
        case rel => exact ⟨i + 1, rfl, ⟨by omega, by omega, by rw [← HA.out.2.2.1]; exact (run_step hi (by simpa using HC.out)).symm, by omega⟩, rfl⟩
    · have hd : decide (i < (s.size : Int)) = false := decide_eq_false hi
      go_wp2
      go_ret
      exact ⟨ret_bool (by rw [← HA.out.2.2.1, run_end (by omega)]; exact (decide_eq_false (by omega)).symm), rfl⟩
theorem brit_no {s : ByteArray} (h : brit s = false) : ∀ i : Int, 0 ≤ i → (s.size : Int) ≤ i + 9 → bt s i ≠ 92 := by
  intro i i0 i1 hb
  have hin := bt_in hb (by omega) i0
  unfold brit at h
  have h := of_decide_eq_false h
  have key : ∀ (k : Nat) (q : Int), 0 ≤ q → q ≤ i → (i - q).toNat ≤ k → run (fun c => c != 92) s q < (s.size : Int) := by
    intro k
    induction k with
    | zero =>
      intro q q0 q1 q2
      obtain rfl : q = i := by omega
      rw [run_stop (by rw [hb]; rfl)]
      exact hin
    | succ k ih =>
      intro q q0 q1 q2
      by_cases hq : bt s q = 92
      · rw [run_stop (by rw [hq]; rfl)]
        omega
      · by_cases he : q = i
        · rw [he] at hq; exact absurd hb hq
        · rw [run_step (by omega) (by simpa using hq)]
          exact ih (q + 1) (by omega) (by omega) (by omega)
  exact h (key _ _ (by omega) (by omega) (Nat.le_refl _))
theorem padded_c (s : ByteArray) (w : World) (hs : (s.size : Int) ≤ 1000000) (hb : brit s = false) :
    Calls Tryz.prog 17 #[.string s] w fun e w' => e = .returned (.string s) ∧ w' = w := by
  go_enter Tryz.func17, Tryz.ntmps17
  go_wp2_with (first | (go_at_call 5; (with_reducible refine (brit_c s _ hs).mono ?_); rintro e w' ⟨rfl, hw'⟩; obtain rfl := hw'.symm))
  go_ret
  exact ⟨rfl, rfl⟩
theorem RawsE.tup {R : Option (List (Int × Int × ByteArray))} {w w' : World} {e : Ending} (h : RawsE R w e w') : ∃ A n C b, e = .returned (.tuple #[.slice A n C, .bool b]) := by
  cases R with
  | none =>
    exact ⟨none, 0, 0, _, h.1⟩
  | some l =>
    obtain ⟨v, B, he, _, _, hO⟩ := h
    obtain ⟨A, C, rfl⟩ := hO.shape
    exact ⟨A, _, C, _, he⟩
theorem split_c (w : World) (s : ByteArray) (hT : Txt s) (hb : brit s = false) (hPow : Pow10 w) :
    Calls Tryz.prog 9 #[.string s] w (RawsE (implS s) w) := by
  have hs : (s.size : Int) ≤ 1000000 := by have := hT.size; omega
  obtain ⟨R, hR⟩ : ∃ R, implS s = R := ⟨_, rfl⟩
  have HR := Aside0.mk hR
  rw [hR]
  clear hR
  go_enter Tryz.func9, Tryz.ntmps9
  go_wp2_with (first
    | (go_at_call 17; (with_reducible refine (padded_c s _ hs hb).mono ?_); rintro e w' ⟨rfl, hw'⟩; obtain rfl := hw'.symm)
    | (go_at_call 16; (with_reducible refine (implSplit_c _ s hT hPow).mono ?_); rintro e w1 hn; rw [HR.out] at hn; obtain ⟨A, n, C, b, rfl⟩ := hn.tup))
  (try simp only [Exit.inBlock, Exit.then]); refine bodyPost_ret (results_tmp2 rfl _ _ _) rfl ?_
  exact hn
/-- It answers yes or no. -/
def AnyB (w : World) (e : Ending) (w' : World) : Prop := ∃ b, e = .returned (.bool b) ∧ w' = w
theorem within_c (s t : ByteArray) (w : World) (hs : (s.size : Int) ≤ 1000000) (ht : (t.size : Int) ≤ 1000000) :
    Calls Tryz.prog 8 #[.string s, .string t] w (AnyB w) := by
  go_enter Tryz.func8, Tryz.ntmps8
  go_wp2
  go_loopg [5] (s.size + 2) (fun kq v5 wr => ∃ i : Int, v5 = .int .i64 i ∧ Aside0 (0 ≤ i ∧ i ≤ (s.size : Int) + 1 ∧ ((s.size : Int) + 1 - i).toNat < kq) ∧ wr = w)
  case atStart => exact ⟨0, rfl, ⟨by omega, by omega, by omega⟩, rfl⟩
  case round =>
    obtain ⟨i, rfl, HA, hwr⟩ := hrel
    obtain rfl := hwr.symm
    have i0 := HA.out.1
    have i1 := HA.out.2.1
    have hw := iwrap (i + 1) (by omega) (by omega)
    have hw2 := iwrap (i + t.size) (by omega) (by omega)
    by_cases hi : i + t.size ≤ (s.size : Int)
    · have hd : decide (i + t.size ≤ (s.size : Int)) = true := decide_eq_true hi
      have b1 : i ≤ i + t.size := by omega
      have b2 : 0 ≤ i + t.size := by omega
      cases hc : ((s.extract i.toNat (i + t.size).toNat).toList == t.toList) with
      | true =>
        go_wp2
        go_ret
        exact ⟨_, rfl, rfl⟩
      | false =>
        go_wp2
        go_roundg (((s.size : Int) + 1 - (i + 1)).toNat + 1)
        case measure => have := HA.out.2.2; omega
        case rel => exact ⟨i + 1, rfl, ⟨by omega, by omega, by omega⟩, rfl⟩
    · have hd : decide (i + t.size ≤ (s.size : Int)) = false := decide_eq_false hi
      go_wp2
      go_ret
      exact ⟨_, rfl, rfl⟩
def KnownAt (s : ByteArray) (i : Int) : Prop := (bt s i = 9 ∨ bt s i = 10 ∨ 32 ≤ bt s i ∧ bt s i ≤ 126) ∧ (bt s i = 33 → bt s (i + 1) = 61) ∧ (bt s i = 43 ∨ bt s i = 45 → bt s (i + 1) ≠ 61) ∧ (bt s i = 92 → bt s (i + 1) ≠ 10) ∧ ¬(bt s i = 47 ∧ bt s (i + 1) = 42 ∧ bt s (i + 2) = 47)
def KnownP (s : ByteArray) : Prop := (s.size : Int) ≤ 4096 ∧ ∀ i : Int, 0 ≤ i → i < (s.size : Int) → KnownAt s i
def KnownE (s : ByteArray) (w : World) (e : Ending) (w' : World) : Prop := ∃ b, e = .returned (.bool b) ∧ w' = w ∧ (b = true → KnownP s)
theorem KnownP.txt {s : ByteArray} (h : KnownP s) (hb : brit s = false) : Txt s := by
  have hin : ∀ (i : Int) (c : Int), 0 ≤ i → bt s i = c → c ≠ 0 → i < (s.size : Int) := fun i c h0 h1 h2 => bt_in h1 h2 h0
  refine ⟨h.1, fun i h0 h1 => (h.2 i h0 h1).1, fun i h0 h1 => ?_, fun i h0 h1 => ?_, fun i h0 h1 => ?_, fun i h0 h1 h2 h3 => ?_, brit_no hb⟩
  · exact (h.2 i h0 (hin i 33 h0 h1 (by decide))).2.1 h1
  · rcases h1 with h1 | h1
    · exact (h.2 i h0 (hin i 43 h0 h1 (by decide))).2.2.1 (.inl h1)
    · exact (h.2 i h0 (hin i 45 h0 h1 (by decide))).2.2.1 (.inr h1)
  · exact (h.2 i h0 (hin i 92 h0 h1 (by decide))).2.2.2.1 h1
  · exact (h.2 i h0 (hin i 47 h0 h1 (by decide))).2.2.2.2 ⟨h1, h2, h3⟩
set_option maxRecDepth 100000 in
set_option maxHeartbeats 8000000 in
theorem known_c (s : ByteArray) (w : World) (hs : (s.size : Int) ≤ 1000000) :
    Calls Tryz.prog 7 #[.string s] w (KnownE s w) := by
  by_cases hz : 4096 < (s.size : Int)
  · have hd : decide (4096 < (s.size : Int)) = true := decide_eq_true hz
    go_enter Tryz.func7, Tryz.ntmps7
    go_wp2
    go_ret
    exact ⟨_, rfl, rfl, fun h => by cases h⟩
  have hd0 : decide (4096 < (s.size : Int)) = false := decide_eq_false hz
  go_enter Tryz.func7, Tryz.ntmps7
  go_wp2
  go_loopg [3] (s.size + 1) (fun kq v3 wr => ∃ i : Int, v3 = .int .i64 i ∧ Aside0 (0 ≤ i ∧ i ≤ (s.size : Int) ∧ (∀ j : Int, 0 ≤ j → j < i → KnownAt s j) ∧ ((s.size : Int) - i).toNat < kq) ∧ wr = w)
  case atStart => exact ⟨0, rfl, ⟨by omega, by omega, fun j j0 j1 => by omega, by omega⟩, rfl⟩
  case round =>
    obtain ⟨i, rfl, HA, hwr⟩ := hrel
    obtain rfl := hwr.symm
    have i0 := HA.out.1
    have i1 := HA.out.2.1
    have hw := iwrap (i + 1) (by omega) (by omega)
    by_cases hi : i < (s.size : Int)
    · have hd : decide (i < (s.size : Int)) = true := decide_eq_true hi
      have hx := bt_at s i
      by_cases h9 : bt s i = 9
      · have HC := Aside0.mk h9
        have hK : Aside0 (KnownAt s i) := ⟨by unfold KnownAt; rw [HC.out]; exact ⟨by omega, fun h => by omega, fun h => by omega, fun h => by omega, fun h => by omega⟩⟩
        go_wp2_with (first | (go_at_call 15; (with_reducible refine (starts1_c s 61 61 (i + 1) _ rfl (by decide) (by omega) (by omega) hs).mono ?_); rintro e w' ⟨rfl, hw'⟩; obtain rfl := hw'.symm) | (go_at_call 15; (with_reducible refine (starts1_c s 10 10 (i + 1) _ rfl (by decide) (by omega) (by omega) hs).mono ?_); rintro e w' ⟨rfl, hw'⟩; obtain rfl := hw'.symm) | (go_at_call 15; (with_reducible refine (starts3x_c s 47 42 47 47 42 47 i _ rfl rfl rfl (by decide) (by decide) (by decide) (by omega) (by omega) hs).mono ?_); rintro e w' ⟨rfl, hw'⟩; obtain rfl := hw'.symm))
        go_roundg (((s.size : Int) - (i + 1)).toNat + 1)
        case measure => have := HA.out.2.2.2; omega
        case rel => exact ⟨i + 1, rfl, ⟨by omega, by omega, fun j j0 j1 => by
          by_cases hj : j = i
          · rw [hj]; exact hK.out
          · exact HA.out.2.2.1 j j0 (by omega), by omega⟩, rfl⟩
      by_cases h10 : bt s i = 10
      · have HC := Aside0.mk h10
        have hK : Aside0 (KnownAt s i) := ⟨by unfold KnownAt; rw [HC.out]; exact ⟨by omega, fun h => by omega, fun h => by omega, fun h => by omega, fun h => by omega⟩⟩
        go_wp2_with (first | (go_at_call 15; (with_reducible refine (starts1_c s 61 61 (i + 1) _ rfl (by decide) (by omega) (by omega) hs).mono ?_); rintro e w' ⟨rfl, hw'⟩; obtain rfl := hw'.symm) | (go_at_call 15; (with_reducible refine (starts1_c s 10 10 (i + 1) _ rfl (by decide) (by omega) (by omega) hs).mono ?_); rintro e w' ⟨rfl, hw'⟩; obtain rfl := hw'.symm) | (go_at_call 15; (with_reducible refine (starts3x_c s 47 42 47 47 42 47 i _ rfl rfl rfl (by decide) (by decide) (by decide) (by omega) (by omega) hs).mono ?_); rintro e w' ⟨rfl, hw'⟩; obtain rfl := hw'.symm))
        go_roundg (((s.size : Int) - (i + 1)).toNat + 1)
        case measure => have := HA.out.2.2.2; omega
        case rel => exact ⟨i + 1, rfl, ⟨by omega, by omega, fun j j0 j1 => by
          by_cases hj : j = i
          · rw [hj]; exact hK.out
          · exact HA.out.2.2.1 j j0 (by omega), by omega⟩, rfl⟩
      have n9 : (bt s i != 9) = true := by simpa using h9
      have n10 : (bt s i != 10) = true := by simpa using h10
      have H9 := Aside0.mk h9
      have H10 := Aside0.mk h10
      clear h9 h10
      by_cases hlo : bt s i < 32
      · have dlo : decide (bt s i < 32) = true := decide_eq_true hlo
        go_wp2_with (first | (go_at_call 15; (with_reducible refine (starts1_c s 61 61 (i + 1) _ rfl (by decide) (by omega) (by omega) hs).mono ?_); rintro e w' ⟨rfl, hw'⟩; obtain rfl := hw'.symm) | (go_at_call 15; (with_reducible refine (starts1_c s 10 10 (i + 1) _ rfl (by decide) (by omega) (by omega) hs).mono ?_); rintro e w' ⟨rfl, hw'⟩; obtain rfl := hw'.symm) | (go_at_call 15; (with_reducible refine (starts3x_c s 47 42 47 47 42 47 i _ rfl rfl rfl (by decide) (by decide) (by decide) (by omega) (by omega) hs).mono ?_); rintro e w' ⟨rfl, hw'⟩; obtain rfl := hw'.symm))
        go_ret
        exact ⟨_, rfl, rfl, fun h => by cases h⟩
      have dlo : decide (bt s i < 32) = false := decide_eq_false hlo
      by_cases hhi : 126 < bt s i
      · have dhi : decide (126 < bt s i) = true := decide_eq_true hhi
        go_wp2_with (first | (go_at_call 15; (with_reducible refine (starts1_c s 61 61 (i + 1) _ rfl (by decide) (by omega) (by omega) hs).mono ?_); rintro e w' ⟨rfl, hw'⟩; obtain rfl := hw'.symm) | (go_at_call 15; (with_reducible refine (starts1_c s 10 10 (i + 1) _ rfl (by decide) (by omega) (by omega) hs).mono ?_); rintro e w' ⟨rfl, hw'⟩; obtain rfl := hw'.symm) | (go_at_call 15; (with_reducible refine (starts3x_c s 47 42 47 47 42 47 i _ rfl rfl rfl (by decide) (by decide) (by decide) (by omega) (by omega) hs).mono ?_); rintro e w' ⟨rfl, hw'⟩; obtain rfl := hw'.symm))
        go_ret
        exact ⟨_, rfl, rfl, fun h => by cases h⟩
      have dhi : decide (126 < bt s i) = false := decide_eq_false hhi
      by_cases h33 : bt s i = 33
      · have HC := Aside0.mk h33
        clear n9 n10 dlo dhi hlo hhi
        cases hn : (bt s (i + 1) == 61) with
        | true =>
          have HN := Aside0.mk hn
          have hK : Aside0 (KnownAt s i) := ⟨by unfold KnownAt; rw [HC.out]; exact ⟨by omega, fun _ => beq_iff_eq.1 HN.out, fun h => by omega, fun h => by omega, fun h => by omega⟩⟩
          go_wp2_with (first | (go_at_call 15; (with_reducible refine (starts1_c s 61 61 (i + 1) _ rfl (by decide) (by omega) (by omega) hs).mono ?_); rintro e w' ⟨rfl, hw'⟩; obtain rfl := hw'.symm) | (go_at_call 15; (with_reducible refine (starts1_c s 10 10 (i + 1) _ rfl (by decide) (by omega) (by omega) hs).mono ?_); rintro e w' ⟨rfl, hw'⟩; obtain rfl := hw'.symm) | (go_at_call 15; (with_reducible refine (starts3x_c s 47 42 47 47 42 47 i _ rfl rfl rfl (by decide) (by decide) (by decide) (by omega) (by omega) hs).mono ?_); rintro e w' ⟨rfl, hw'⟩; obtain rfl := hw'.symm))
          go_roundg (((s.size : Int) - (i + 1)).toNat + 1)
          case measure => have := HA.out.2.2.2; omega
          case rel => exact ⟨i + 1, rfl, ⟨by omega, by omega, fun j j0 j1 => by
            by_cases hj : j = i
            · rw [hj]; exact hK.out
            · exact HA.out.2.2.1 j j0 (by omega), by omega⟩, rfl⟩
        | false =>
          go_wp2_with (first | (go_at_call 15; (with_reducible refine (starts1_c s 61 61 (i + 1) _ rfl (by decide) (by omega) (by omega) hs).mono ?_); rintro e w' ⟨rfl, hw'⟩; obtain rfl := hw'.symm) | (go_at_call 15; (with_reducible refine (starts1_c s 10 10 (i + 1) _ rfl (by decide) (by omega) (by omega) hs).mono ?_); rintro e w' ⟨rfl, hw'⟩; obtain rfl := hw'.symm) | (go_at_call 15; (with_reducible refine (starts3x_c s 47 42 47 47 42 47 i _ rfl rfl rfl (by decide) (by decide) (by decide) (by omega) (by omega) hs).mono ?_); rintro e w' ⟨rfl, hw'⟩; obtain rfl := hw'.symm))
          go_ret
          exact ⟨_, rfl, rfl, fun h => by cases h⟩
      have n33 : (bt s i == 33) = false := beqf h33
      have H33 := Aside0.mk h33
      clear h33
      by_cases h43 : bt s i = 43
      · have HC := Aside0.mk h43
        clear n9 n10 dlo dhi hlo hhi
        cases hn : (bt s (i + 1) == 61) with
        | true =>
          go_wp2_with (first | (go_at_call 15; (with_reducible refine (starts1_c s 61 61 (i + 1) _ rfl (by decide) (by omega) (by omega) hs).mono ?_); rintro e w' ⟨rfl, hw'⟩; obtain rfl := hw'.symm) | (go_at_call 15; (with_reducible refine (starts1_c s 10 10 (i + 1) _ rfl (by decide) (by omega) (by omega) hs).mono ?_); rintro e w' ⟨rfl, hw'⟩; obtain rfl := hw'.symm) | (go_at_call 15; (with_reducible refine (starts3x_c s 47 42 47 47 42 47 i _ rfl rfl rfl (by decide) (by decide) (by decide) (by omega) (by omega) hs).mono ?_); rintro e w' ⟨rfl, hw'⟩; obtain rfl := hw'.symm))
          go_ret
          exact ⟨_, rfl, rfl, fun h => by cases h⟩
        | false =>
          have HN := Aside0.mk hn
          have hK : Aside0 (KnownAt s i) := ⟨by unfold KnownAt; rw [HC.out]; exact ⟨by omega, fun h => by omega, fun _ => ne_of_beq_false HN.out, fun h => by omega, fun h => by omega⟩⟩
          go_wp2_with (first | (go_at_call 15; (with_reducible refine (starts1_c s 61 61 (i + 1) _ rfl (by decide) (by omega) (by omega) hs).mono ?_); rintro e w' ⟨rfl, hw'⟩; obtain rfl := hw'.symm) | (go_at_call 15; (with_reducible refine (starts1_c s 10 10 (i + 1) _ rfl (by decide) (by omega) (by omega) hs).mono ?_); rintro e w' ⟨rfl, hw'⟩; obtain rfl := hw'.symm) | (go_at_call 15; (with_reducible refine (starts3x_c s 47 42 47 47 42 47 i _ rfl rfl rfl (by decide) (by decide) (by decide) (by omega) (by omega) hs).mono ?_); rintro e w' ⟨rfl, hw'⟩; obtain rfl := hw'.symm))
          go_roundg (((s.size : Int) - (i + 1)).toNat + 1)
          case measure => have := HA.out.2.2.2; omega
          case rel => exact ⟨i + 1, rfl, ⟨by omega, by omega, fun j j0 j1 => by
            by_cases hj : j = i
            · rw [hj]; exact hK.out
            · exact HA.out.2.2.1 j j0 (by omega), by omega⟩, rfl⟩
      have n43 : (bt s i == 43) = false := beqf h43
      have H43 := Aside0.mk h43
      clear h43
      by_cases h45 : bt s i = 45
      · have HC := Aside0.mk h45
        clear n9 n10 dlo dhi hlo hhi
        cases hn : (bt s (i + 1) == 61) with
        | true =>
          go_wp2_with (first | (go_at_call 15; (with_reducible refine (starts1_c s 61 61 (i + 1) _ rfl (by decide) (by omega) (by omega) hs).mono ?_); rintro e w' ⟨rfl, hw'⟩; obtain rfl := hw'.symm) | (go_at_call 15; (with_reducible refine (starts1_c s 10 10 (i + 1) _ rfl (by decide) (by omega) (by omega) hs).mono ?_); rintro e w' ⟨rfl, hw'⟩; obtain rfl := hw'.symm) | (go_at_call 15; (with_reducible refine (starts3x_c s 47 42 47 47 42 47 i _ rfl rfl rfl (by decide) (by decide) (by decide) (by omega) (by omega) hs).mono ?_); rintro e w' ⟨rfl, hw'⟩; obtain rfl := hw'.symm))
          go_ret
          exact ⟨_, rfl, rfl, fun h => by cases h⟩
        | false =>
          have HN := Aside0.mk hn
          have hK : Aside0 (KnownAt s i) := ⟨by unfold KnownAt; rw [HC.out]; exact ⟨by omega, fun h => by omega, fun _ => ne_of_beq_false HN.out, fun h => by omega, fun h => by omega⟩⟩
          go_wp2_with (first | (go_at_call 15; (with_reducible refine (starts1_c s 61 61 (i + 1) _ rfl (by decide) (by omega) (by omega) hs).mono ?_); rintro e w' ⟨rfl, hw'⟩; obtain rfl := hw'.symm) | (go_at_call 15; (with_reducible refine (starts1_c s 10 10 (i + 1) _ rfl (by decide) (by omega) (by omega) hs).mono ?_); rintro e w' ⟨rfl, hw'⟩; obtain rfl := hw'.symm) | (go_at_call 15; (with_reducible refine (starts3x_c s 47 42 47 47 42 47 i _ rfl rfl rfl (by decide) (by decide) (by decide) (by omega) (by omega) hs).mono ?_); rintro e w' ⟨rfl, hw'⟩; obtain rfl := hw'.symm))
          go_roundg (((s.size : Int) - (i + 1)).toNat + 1)
          case measure => have := HA.out.2.2.2; omega
          case rel => exact ⟨i + 1, rfl, ⟨by omega, by omega, fun j j0 j1 => by
            by_cases hj : j = i
            · rw [hj]; exact hK.out
            · exact HA.out.2.2.1 j j0 (by omega), by omega⟩, rfl⟩
      have n45 : (bt s i == 45) = false := beqf h45
      have H45 := Aside0.mk h45
      clear h45
      by_cases h92 : bt s i = 92
      · have HC := Aside0.mk h92
        clear n9 n10 dlo dhi hlo hhi
        cases hn : (bt s (i + 1) == 10) with
        | true =>
          go_wp2_with (first | (go_at_call 15; (with_reducible refine (starts1_c s 61 61 (i + 1) _ rfl (by decide) (by omega) (by omega) hs).mono ?_); rintro e w' ⟨rfl, hw'⟩; obtain rfl := hw'.symm) | (go_at_call 15; (with_reducible refine (starts1_c s 10 10 (i + 1) _ rfl (by decide) (by omega) (by omega) hs).mono ?_); rintro e w' ⟨rfl, hw'⟩; obtain rfl := hw'.symm) | (go_at_call 15; (with_reducible refine (starts3x_c s 47 42 47 47 42 47 i _ rfl rfl rfl (by decide) (by decide) (by decide) (by omega) (by omega) hs).mono ?_); rintro e w' ⟨rfl, hw'⟩; obtain rfl := hw'.symm))
          go_ret
          exact ⟨_, rfl, rfl, fun h => by cases h⟩
        | false =>
          have HN := Aside0.mk hn
          have hK : Aside0 (KnownAt s i) := ⟨by unfold KnownAt; rw [HC.out]; exact ⟨by omega, fun h => by omega, fun h => by omega, fun _ => ne_of_beq_false HN.out, fun h => by omega⟩⟩
          go_wp2_with (first | (go_at_call 15; (with_reducible refine (starts1_c s 61 61 (i + 1) _ rfl (by decide) (by omega) (by omega) hs).mono ?_); rintro e w' ⟨rfl, hw'⟩; obtain rfl := hw'.symm) | (go_at_call 15; (with_reducible refine (starts1_c s 10 10 (i + 1) _ rfl (by decide) (by omega) (by omega) hs).mono ?_); rintro e w' ⟨rfl, hw'⟩; obtain rfl := hw'.symm) | (go_at_call 15; (with_reducible refine (starts3x_c s 47 42 47 47 42 47 i _ rfl rfl rfl (by decide) (by decide) (by decide) (by omega) (by omega) hs).mono ?_); rintro e w' ⟨rfl, hw'⟩; obtain rfl := hw'.symm))
          go_roundg (((s.size : Int) - (i + 1)).toNat + 1)
          case measure => have := HA.out.2.2.2; omega
          case rel => exact ⟨i + 1, rfl, ⟨by omega, by omega, fun j j0 j1 => by
            by_cases hj : j = i
            · rw [hj]; exact hK.out
            · exact HA.out.2.2.1 j j0 (by omega), by omega⟩, rfl⟩
      have n92 : (bt s i == 92) = false := beqf h92
      have H92 := Aside0.mk h92
      clear h92
      cases h3 : (bt s i == 47 && (bt s (i + 1) == 42 && bt s (i + 2) == 47)) with
      | true =>
        go_wp2_with (first | (go_at_call 15; (with_reducible refine (starts1_c s 61 61 (i + 1) _ rfl (by decide) (by omega) (by omega) hs).mono ?_); rintro e w' ⟨rfl, hw'⟩; obtain rfl := hw'.symm) | (go_at_call 15; (with_reducible refine (starts1_c s 10 10 (i + 1) _ rfl (by decide) (by omega) (by omega) hs).mono ?_); rintro e w' ⟨rfl, hw'⟩; obtain rfl := hw'.symm) | (go_at_call 15; (with_reducible refine (starts3x_c s 47 42 47 47 42 47 i _ rfl rfl rfl (by decide) (by decide) (by decide) (by omega) (by omega) hs).mono ?_); rintro e w' ⟨rfl, hw'⟩; obtain rfl := hw'.symm))
        go_ret
        exact ⟨_, rfl, rfl, fun h => by cases h⟩
      | false =>
        have H3 := Aside0.mk h3
        have HLO := Aside0.mk hlo
        have HHI := Aside0.mk hhi
        clear hlo hhi
        have hK : Aside0 (KnownAt s i) := ⟨by have a1 := HLO.out; have a2 := HHI.out; have a3 := H33.out; have a4 := H43.out; have a5 := H45.out; have a6 := H92.out; exact ⟨by omega, fun h => absurd h a3, fun h => by omega, fun h => absurd h a6, fun h => by have h5 := H3.out; rw [h.1, h.2.1, h.2.2] at h5; simp at h5⟩⟩
        go_wp2_with (first | (go_at_call 15; (with_reducible refine (starts1_c s 61 61 (i + 1) _ rfl (by decide) (by omega) (by omega) hs).mono ?_); rintro e w' ⟨rfl, hw'⟩; obtain rfl := hw'.symm) | (go_at_call 15; (with_reducible refine (starts1_c s 10 10 (i + 1) _ rfl (by decide) (by omega) (by omega) hs).mono ?_); rintro e w' ⟨rfl, hw'⟩; obtain rfl := hw'.symm) | (go_at_call 15; (with_reducible refine (starts3x_c s 47 42 47 47 42 47 i _ rfl rfl rfl (by decide) (by decide) (by decide) (by omega) (by omega) hs).mono ?_); rintro e w' ⟨rfl, hw'⟩; obtain rfl := hw'.symm))
        go_roundg (((s.size : Int) - (i + 1)).toNat + 1)
        case measure => have := HA.out.2.2.2; omega
        case rel => exact ⟨i + 1, rfl, ⟨by omega, by omega, fun j j0 j1 => by
          by_cases hj : j = i
          · rw [hj]; exact hK.out
          · exact HA.out.2.2.1 j j0 (by omega), by omega⟩, rfl⟩
    · have hd : decide (i < (s.size : Int)) = false := decide_eq_false hi
      go_wp2
      go_ret
      exact ⟨_, rfl, rfl, fun _ => ⟨by omega, fun j j0 j1 => HA.out.2.2.1 j j0 (by omega)⟩⟩
end Go.Proofs.YtjepdlmcombmcaaGreatDoor.Lx
