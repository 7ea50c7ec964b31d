/- The law FnSplitExact: the walk. Condition: the table of powers lies. -/
import Derived.Test.YtjepdlmcombmcaaGreatDoorRk
import Derived.Test.YtjepdlmcombmcaaGreatDoorRe
import Derived.Test.YtjepdlmcombmcaaGreatDoorSa
namespace Go.Proofs.YtjepdlmcombmcaaGreatDoor.Lx
open Go.RowKit Go.Proofs.YtjepdlmcombmcaaGreatDoorW.PrintWords

theorem specS_ne {s : ByteArray} {l : List (Int × Int × ByteArray)} (h : implS s = some l) : l ≠ [] := by
  unfold implS at h
  split at h
  · cases h
  · injection h with h
    rw [← h]
    unfold fixS
    split
    · simp
    · assumption
theorem specS_len {s : ByteArray} {l : List (Int × Int × ByteArray)} (hs : s.size ≤ 5000) (h : implS s = some l) : l.length ≤ 10000 := by
  unfold implS at h
  split at h
  · cases h
  · rename_i m hm
    injection h with h
    rw [← h]
    exact implS_len s hs m hm
set_option maxRecDepth 100000 in
/-- Where the law asks nothing of the text. -/
theorem split_triv (s : ByteArray) (w : World) (h : 2147483647 < (s.size : Int) ∨ (2147483647 < (s.size : Int)) = False ∧ (16384 < (s.size : Int) ∨ (s.size : Int) ≤ 16384 ∧ brit s = true)) :
    Calls Tryz.prog 3 #[.string s] w fun e w' => e = .returned (.bool true) ∧ Below w.heap.size w w' := by
  rcases h with h | ⟨h, h2⟩
  · have hd : decide (2147483647 < (s.size : Int)) = true := decide_eq_true h
    go_enter Tryz.func3, Tryz.ntmps3
    go_wp2
    go_ret
    exact ⟨rfl, Below.refl _ _⟩
  · have hd : decide (2147483647 < (s.size : Int)) = false := decide_eq_false (by rw [h]; exact id)
    clear h
    rcases h2 with h2 | ⟨h2, hb⟩
    · have hd2 : decide (16384 < (s.size : Int)) = true := decide_eq_true h2
      go_enter Tryz.func3, Tryz.ntmps3
      go_wp2_with (first | (go_at_call 6; (with_reducible refine (lexes_c _).mono ?_); rintro e wl ⟨rfl, hBl⟩))
      go_ret
      exact ⟨rfl, hBl⟩
    · have hd2 : decide (16384 < (s.size : Int)) = false := decide_eq_false (by omega)
      have hs6 : (s.size : Int) ≤ 1000000 := by omega
      go_enter Tryz.func3, Tryz.ntmps3
      go_wp2_with (first | (go_at_call 5; (with_reducible refine (brit_c s _ hs6).mono ?_); rintro e w' ⟨rfl, hw'⟩; obtain rfl := hw'.symm) | (go_at_call 6; (with_reducible refine (lexes_c _).mono ?_); rintro e wl ⟨rfl, hBl⟩))
      go_ret
      exact ⟨rfl, hBl⟩
def knownB (s : ByteArray) (b : Bool) : Prop := b = true → KnownP s
set_option maxRecDepth 100000 in
set_option maxHeartbeats 8000000 in
theorem split_main (s : ByteArray) (w : World) (hPow : Pow10 w) (h2 : (s.size : Int) ≤ 16384) (hb : brit s = false) :
    Calls Tryz.prog 3 #[.string s] w fun e w' => e = .returned (.bool true) ∧ Below w.heap.size w w' := by
  have hd : decide (2147483647 < (s.size : Int)) = false := decide_eq_false (by omega)
  have hd2 : decide (16384 < (s.size : Int)) = false := decide_eq_false (by omega)
  have hs6 : (s.size : Int) ≤ 1000000 := by omega
  have ht6 : ((⟨#[47, 42, 47]⟩ : ByteArray).size : Int) ≤ 1000000 := by decide
  have HB := Aside0.mk hb
  go_enter Tryz.func3, Tryz.ntmps3
  go_wp2_with (first | (go_at_call 5; (with_reducible refine (brit_c s _ hs6).mono ?_); rintro e w' ⟨rfl, hw'⟩; obtain rfl := hw'.symm) | (go_at_call 7; (with_reducible refine (known_c s _ hs6).mono ?_); rintro e w' ⟨bk, rfl, hw', hK⟩; obtain rfl := hw'.symm; have HK := Aside0.mk hK; clear hK; cases bk))
  · go_wp2_with (first | (go_at_call 6; (with_reducible refine (lexes_c _).mono ?_); rintro e wl ⟨rfl, hBl⟩))
    go_ret
    exact ⟨rfl, hBl⟩
  · have hTx : Txt s := (HK.out (by first | trivial | rfl)).txt HB.out
    have hsz := hTx.size
    go_wp2_with (first | (go_at_call 8; (with_reducible refine (within_c s _ _ hs6 ht6).mono ?_); rintro e w' ⟨b8, rfl, hw'⟩; obtain rfl := hw'.symm; cases b8))
    · have hne := fun l h => specS_ne (s := s) (l := l) h
      cases hR : implS s with
      | none =>
        have HR := Aside0.mk hR
        have HR2 : Aside0 (specS s = none) := ⟨by rw [← split_same, hR]⟩
        clear hR hne
        go_wp2_with (first
          | (go_at_call 9; (with_reducible refine (split_c _ s hTx HB.out hPow).mono ?_); rintro e w1 hn; rw [HR.out] at hn; obtain ⟨rfl, hB1⟩ := hn)
          | (go_at_call 10; (with_reducible refine (specSplit_c _ s hTx).mono ?_); rintro e w2 hn; rw [HR2.out] at hn; obtain ⟨rfl, hB2⟩ := hn))
        have hBB := hB1.trans (hB2.mono hB1.size)
        go_loopg [57] 1 (fun kq v57 wr => v57 = .int .i64 0 ∧ wr = w2)
        case atStart => exact ⟨rfl, rfl⟩
        case round =>
          obtain ⟨rfl, hwr⟩ := hrel
          obtain rfl := hwr.symm
          go_wp2_with (first | (go_at_call 6; (with_reducible refine (lexes_c _).mono ?_); rintro e wl ⟨rfl, hBl⟩))
          go_ret
          exact ⟨rfl, hBB.trans (hBl.mono hBB.size)⟩
      | some l =>
        have HR := Aside0.mk hR
        have HR2 : Aside0 (specS s = some l) := ⟨by rw [← split_same, hR]⟩
        have hln : l ≠ [] := hne l hR
        have hl0 : 0 < l.length := List.length_pos_iff.2 hln
        have hlb : l.length ≤ 10000 := specS_len (by omega) hR
        have hl1 : ((l.length : Int) == 0) = false := beqf (by omega)
        have hl2 : ((l.length : Int) != (l.length : Int)) = false := by simp
        clear hR hne hln
        go_wp2_with (first
          | (go_at_call 9; (with_reducible refine (split_c _ s hTx HB.out hPow).mono ?_); rintro e w1 hn; rw [HR.out] at hn; obtain ⟨v1, D1, rfl, hB1, hD1, hO1⟩ := hn; obtain ⟨A1, C1, hv1⟩ := hO1.shape; obtain rfl := hv1)
          | (go_at_call 10; (with_reducible refine (specSplit_c _ s hTx).mono ?_); rintro e w2 hn; rw [HR2.out] at hn; obtain ⟨v2, D2, rfl, hB2, hD2, hO2⟩ := hn; obtain ⟨A2, C2, hv2⟩ := hO2.shape; obtain rfl := hv2))
        have hO1 := hO1.below hB2
        have hBB := hB1.trans (hB2.mono hB1.size)
        go_loopg [57] (l.length + 1) (fun kq v57 wr => ∃ i : Nat, v57 = .int .i64 (i : Int) ∧ Aside0 (l.length - i < kq) ∧ Drawn0 w2 wr)
        case atStart => exact ⟨0, rfl, ⟨by omega⟩, Drawn0.refl _⟩
        case round =>
          obtain ⟨i, rfl, HA, ⟨m, rfl⟩⟩ := hrel
          by_cases hi : i < l.length
          · have hdi : decide ((i : Int) < (l.length : Int)) = true := decide_eq_true (by omega)
            have hw := iwrap ((i : Int) + 1) (by omega) (by omega)
            obtain ⟨q, hq⟩ : ∃ q, l[i]? = some q := ⟨_, List.getElem?_eq_getElem hi⟩
            obtain ⟨G1, K1, hv1, a0, a1, a2⟩ := hO1.get hq
            obtain ⟨G2, K2, hv2, b0, b1, b2⟩ := hO2.get hq
            obtain rfl : A1 = some ⟨G1, 0, none⟩ := by injection hv1
            obtain rfl : A2 = some ⟨G2, 0, none⟩ := by injection hv2
            clear hv1 hv2
            have c0 : (0 : Int) ≤ (i : Int) := by omega
            have c1 : (i : Int) < (l.length : Int) := by omega
            go_wp2
            go_quiet (fail)
            go_wp2
            go_roundg (l.length - i)
            case measure => have := HA.out; omega
            case rel => exact ⟨i + 1, by congr 1, ⟨by omega⟩, by repeat (first | exact Drawn0.refl _ | apply Drawn0.step)⟩
          · have hdi : decide ((i : Int) < (l.length : Int)) = false := decide_eq_false (by omega)
            go_wp2_with (first | (go_at_call 6; (with_reducible refine (lexes_c _).mono ?_); rintro e wl ⟨rfl, hBl⟩))
            go_ret
            exact ⟨rfl, (pw_below_drewN hBB m).trans (hBl.mono hBB.size)⟩
    · go_wp2_with (first | (go_at_call 6; (with_reducible refine (lexes_c _).mono ?_); rintro e wl ⟨rfl, hBl⟩))
      go_ret
      exact ⟨rfl, hBl⟩
end Go.Proofs.YtjepdlmcombmcaaGreatDoor.Lx
