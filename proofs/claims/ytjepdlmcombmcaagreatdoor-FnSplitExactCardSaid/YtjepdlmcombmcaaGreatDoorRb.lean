/- The reference's reserved words: what spec.Keyword returns. Conditions: the word has a byte, no blank, and no more than a million bytes. -/
import Derived.Test.YtjepdlmcombmcaaGreatDoorGb
namespace Go.Proofs.YtjepdlmcombmcaaGreatDoor.Lx
open Go.RowKit Go.Proofs.YtjepdlmcombmcaaGreatDoorW.PrintWords

/-- The text of the reserved words. -/
def kwText : ByteArray := ⟨(((([32, 65, 76, 76, 32, 65, 78, 68, 32, 65, 78, 89, 32, 65, 82, 82, 65, 89, 32, 65, 83, 32, 65, 83, 67, 32, 65, 83, 83, 69, 82, 84, 95, 82, 79, 87, 83].append [95, 77, 79, 68, 73, 70, 73, 69, 68, 32, 65, 84, 32, 66, 69, 84, 87, 69, 69, 78, 32, 66, 89, 32, 67, 65, 83, 69, 32, 67, 65, 83, 84, 32, 67, 79, 76, 76]).append ([65, 84, 69, 32, 67, 79, 78, 84, 65, 73, 78, 83, 32, 67, 82, 69, 65, 84, 69, 32, 67, 82, 79, 83, 83, 32, 67, 85, 66, 69, 32, 67, 85, 82, 82, 69, 78].append [84, 32, 68, 69, 70, 65, 85, 76, 84, 32, 68, 69, 70, 73, 78, 69, 32, 68, 69, 83, 67, 32, 68, 73, 83, 84, 73, 78, 67, 84, 32, 69, 76, 83, 69, 32, 69, 78])).append (([68, 32, 69, 78, 85, 77, 32, 69, 83, 67, 65, 80, 69, 32, 69, 88, 67, 69, 80, 84, 32, 69, 88, 67, 76, 85, 68, 69, 32, 69, 88, 73, 83, 84, 83, 32, 69].append [88, 84, 82, 65, 67, 84, 32, 70, 65, 76, 83, 69, 32, 70, 69, 84, 67, 72, 32, 70, 79, 76, 76, 79, 87, 73, 78, 71, 32, 70, 79, 82, 32, 70, 82, 79, 77, 32]).append ([70, 85, 76, 76, 32, 71, 82, 65, 80, 72, 95, 84, 65, 66, 76, 69, 32, 71, 82, 79, 85, 80, 32, 71, 82, 79, 85, 80, 73, 78, 71, 32, 71, 82, 79, 85, 80].append [83, 32, 72, 65, 83, 72, 32, 72, 65, 86, 73, 78, 71, 32, 73, 70, 32, 73, 71, 78, 79, 82, 69, 32, 73, 78, 32, 73, 78, 78, 69, 82, 32, 73, 78, 84, 69, 82]))).append ((([83, 69, 67, 84, 32, 73, 78, 84, 69, 82, 86, 65, 76, 32, 73, 78, 84, 79, 32, 73, 83, 32, 74, 79, 73, 78, 32, 76, 65, 84, 69, 82, 65, 76, 32, 76, 69].append [70, 84, 32, 76, 73, 75, 69, 32, 76, 73, 77, 73, 84, 32, 76, 79, 79, 75, 85, 80, 32, 77, 69, 82, 71, 69, 32, 78, 65, 84, 85, 82, 65, 76, 32, 78, 69, 87]).append ([32, 78, 79, 32, 78, 79, 84, 32, 78, 85, 76, 76, 32, 78, 85, 76, 76, 83, 32, 79, 70, 32, 79, 78, 32, 79, 82, 32, 79, 82, 68, 69, 82, 32, 79, 85, 84].append [69, 82, 32, 79, 86, 69, 82, 32, 80, 65, 82, 84, 73, 84, 73, 79, 78, 32, 80, 82, 69, 67, 69, 68, 73, 78, 71, 32, 80, 82, 79, 84, 79, 32, 82, 65, 78, 71])).append (([69, 32, 82, 69, 67, 85, 82, 83, 73, 86, 69, 32, 82, 69, 83, 80, 69, 67, 84, 32, 82, 73, 71, 72, 84, 32, 82, 79, 76, 76, 85, 80, 32, 82, 79, 87, 83].append [32, 83, 69, 76, 69, 67, 84, 32, 83, 69, 84, 32, 83, 79, 77, 69, 32, 83, 84, 82, 85, 67, 84, 32, 84, 65, 66, 76, 69, 83, 65, 77, 80, 76, 69, 32, 84, 72]).append ([69, 78, 32, 84, 79, 32, 84, 82, 69, 65, 84, 32, 84, 82, 85, 69, 32, 85, 78, 66, 79, 85, 78, 68, 69, 68, 32, 85, 78, 73, 79, 78, 32, 85, 78, 78, 69, 83].append [84, 32, 85, 83, 73, 78, 71, 32, 87, 72, 69, 78, 32, 87, 72, 69, 82, 69, 32, 87, 73, 78, 68, 79, 87, 32, 87, 73, 84, 72, 32, 87, 73, 84, 72, 73, 78, 32])))).toArray⟩
theorem kwText_size : kwText.size = 601 := by kernel_rfl
/-- The reserved words in the order of that text. -/
def kwWords : List (List UInt8) := [
  [65, 76, 76],
  [65, 78, 68],
  [65, 78, 89],
  [65, 82, 82, 65, 89],
  [65, 83],
  [65, 83, 67],
  [65, 83, 83, 69, 82, 84, 95, 82, 79, 87, 83, 95, 77, 79, 68, 73, 70, 73, 69, 68],
  [65, 84],
  [66, 69, 84, 87, 69, 69, 78],
  [66, 89],
  [67, 65, 83, 69],
  [67, 65, 83, 84],
  [67, 79, 76, 76, 65, 84, 69],
  [67, 79, 78, 84, 65, 73, 78, 83],
  [67, 82, 69, 65, 84, 69],
  [67, 82, 79, 83, 83],
  [67, 85, 66, 69],
  [67, 85, 82, 82, 69, 78, 84],
  [68, 69, 70, 65, 85, 76, 84],
  [68, 69, 70, 73, 78, 69],
  [68, 69, 83, 67],
  [68, 73, 83, 84, 73, 78, 67, 84],
  [69, 76, 83, 69],
  [69, 78, 68],
  [69, 78, 85, 77],
  [69, 83, 67, 65, 80, 69],
  [69, 88, 67, 69, 80, 84],
  [69, 88, 67, 76, 85, 68, 69],
  [69, 88, 73, 83, 84, 83],
  [69, 88, 84, 82, 65, 67, 84],
  [70, 65, 76, 83, 69],
  [70, 69, 84, 67, 72],
  [70, 79, 76, 76, 79, 87, 73, 78, 71],
  [70, 79, 82],
  [70, 82, 79, 77],
  [70, 85, 76, 76],
  [71, 82, 65, 80, 72, 95, 84, 65, 66, 76, 69],
  [71, 82, 79, 85, 80],
  [71, 82, 79, 85, 80, 73, 78, 71],
  [71, 82, 79, 85, 80, 83],
  [72, 65, 83, 72],
  [72, 65, 86, 73, 78, 71],
  [73, 70],
  [73, 71, 78, 79, 82, 69],
  [73, 78],
  [73, 78, 78, 69, 82],
  [73, 78, 84, 69, 82, 83, 69, 67, 84],
  [73, 78, 84, 69, 82, 86, 65, 76],
  [73, 78, 84, 79],
  [73, 83],
  [74, 79, 73, 78],
  [76, 65, 84, 69, 82, 65, 76],
  [76, 69, 70, 84],
  [76, 73, 75, 69],
  [76, 73, 77, 73, 84],
  [76, 79, 79, 75, 85, 80],
  [77, 69, 82, 71, 69],
  [78, 65, 84, 85, 82, 65, 76],
  [78, 69, 87],
  [78, 79],
  [78, 79, 84],
  [78, 85, 76, 76],
  [78, 85, 76, 76, 83],
  [79, 70],
  [79, 78],
  [79, 82],
  [79, 82, 68, 69, 82],
  [79, 85, 84, 69, 82],
  [79, 86, 69, 82],
  [80, 65, 82, 84, 73, 84, 73, 79, 78],
  [80, 82, 69, 67, 69, 68, 73, 78, 71],
  [80, 82, 79, 84, 79],
  [82, 65, 78, 71, 69],
  [82, 69, 67, 85, 82, 83, 73, 86, 69],
  [82, 69, 83, 80, 69, 67, 84],
  [82, 73, 71, 72, 84],
  [82, 79, 76, 76, 85, 80],
  [82, 79, 87, 83],
  [83, 69, 76, 69, 67, 84],
  [83, 69, 84],
  [83, 79, 77, 69],
  [83, 84, 82, 85, 67, 84],
  [84, 65, 66, 76, 69, 83, 65, 77, 80, 76, 69],
  [84, 72, 69, 78],
  [84, 79],
  [84, 82, 69, 65, 84],
  [84, 82, 85, 69],
  [85, 78, 66, 79, 85, 78, 68, 69, 68],
  [85, 78, 73, 79, 78],
  [85, 78, 78, 69, 83, 84],
  [85, 83, 73, 78, 71],
  [87, 72, 69, 78],
  [87, 72, 69, 82, 69],
  [87, 73, 78, 68, 79, 87],
  [87, 73, 84, 72],
  [87, 73, 84, 72, 73, 78]]
theorem kwText_list : kwText.toList = wtext kwWords := by
  rw [ByteArray.toList_eq]
  kernel_rfl
theorem kwWords_blank : ∀ w ∈ kwWords, 32 ∉ w := by decide
theorem kwWords_yes : ∀ w ∈ kwWords, kw w = true := by decide
theorem kwWords_all : ∀ w ∈ kwList, w ∈ kwWords := by decide
set_option maxRecDepth 100000 in
set_option maxHeartbeats 4000000 in
theorem specKeyword_c (u : ByteArray) (w : World) (hs : (u.size : Int) ≤ 1000000) (h0 : 0 < (u.size : Int)) (hn : ∀ i : Int, 0 ≤ i → i < (u.size : Int) → (bt u i == 32) = false) (hu : 32 ∉ u.toList) :
    Calls Tryz.prog 45 #[.string u] w fun e w' => e = .returned (.bool (kw u.toList)) ∧ w' = w := by
  have HN := Aside0.mk hn
  have HU := Aside0.mk hu
  have hd0 : decide (0 < (u.size : Int)) = true := decide_eq_true h0
  clear hn hu
  go_enter Tryz.func45, Tryz.ntmps45
  obtain ⟨K, hK⟩ : ∃ K, kwText = K := ⟨_, rfl⟩
  rw [show (⟨(((([32, 65, 76, 76, 32, 65, 78, 68, 32, 65, 78, 89, 32, 65, 82, 82, 65, 89, 32, 65, 83, 32, 65, 83, 67, 32, 65, 83, 83, 69, 82, 84, 95, 82, 79, 87, 83].append [95, 77, 79, 68, 73, 70, 73, 69, 68, 32, 65, 84, 32, 66, 69, 84, 87, 69, 69, 78, 32, 66, 89, 32, 67, 65, 83, 69, 32, 67, 65, 83, 84, 32, 67, 79, 76, 76]).append ([65, 84, 69, 32, 67, 79, 78, 84, 65, 73, 78, 83, 32, 67, 82, 69, 65, 84, 69, 32, 67, 82, 79, 83, 83, 32, 67, 85, 66, 69, 32, 67, 85, 82, 82, 69, 78].append [84, 32, 68, 69, 70, 65, 85, 76, 84, 32, 68, 69, 70, 73, 78, 69, 32, 68, 69, 83, 67, 32, 68, 73, 83, 84, 73, 78, 67, 84, 32, 69, 76, 83, 69, 32, 69, 78])).append (([68, 32, 69, 78, 85, 77, 32, 69, 83, 67, 65, 80, 69, 32, 69, 88, 67, 69, 80, 84, 32, 69, 88, 67, 76, 85, 68, 69, 32, 69, 88, 73, 83, 84, 83, 32, 69].append [88, 84, 82, 65, 67, 84, 32, 70, 65, 76, 83, 69, 32, 70, 69, 84, 67, 72, 32, 70, 79, 76, 76, 79, 87, 73, 78, 71, 32, 70, 79, 82, 32, 70, 82, 79, 77, 32]).append ([70, 85, 76, 76, 32, 71, 82, 65, 80, 72, 95, 84, 65, 66, 76, 69, 32, 71, 82, 79, 85, 80, 32, 71, 82, 79, 85, 80, 73, 78, 71, 32, 71, 82, 79, 85, 80].append [83, 32, 72, 65, 83, 72, 32, 72, 65, 86, 73, 78, 71, 32, 73, 70, 32, 73, 71, 78, 79, 82, 69, 32, 73, 78, 32, 73, 78, 78, 69, 82, 32, 73, 78, 84, 69, 82]))).append ((([83, 69, 67, 84, 32, 73, 78, 84, 69, 82, 86, 65, 76, 32, 73, 78, 84, 79, 32, 73, 83, 32, 74, 79, 73, 78, 32, 76, 65, 84, 69, 82, 65, 76, 32, 76, 69].append [70, 84, 32, 76, 73, 75, 69, 32, 76, 73, 77, 73, 84, 32, 76, 79, 79, 75, 85, 80, 32, 77, 69, 82, 71, 69, 32, 78, 65, 84, 85, 82, 65, 76, 32, 78, 69, 87]).append ([32, 78, 79, 32, 78, 79, 84, 32, 78, 85, 76, 76, 32, 78, 85, 76, 76, 83, 32, 79, 70, 32, 79, 78, 32, 79, 82, 32, 79, 82, 68, 69, 82, 32, 79, 85, 84].append [69, 82, 32, 79, 86, 69, 82, 32, 80, 65, 82, 84, 73, 84, 73, 79, 78, 32, 80, 82, 69, 67, 69, 68, 73, 78, 71, 32, 80, 82, 79, 84, 79, 32, 82, 65, 78, 71])).append (([69, 32, 82, 69, 67, 85, 82, 83, 73, 86, 69, 32, 82, 69, 83, 80, 69, 67, 84, 32, 82, 73, 71, 72, 84, 32, 82, 79, 76, 76, 85, 80, 32, 82, 79, 87, 83].append [32, 83, 69, 76, 69, 67, 84, 32, 83, 69, 84, 32, 83, 79, 77, 69, 32, 83, 84, 82, 85, 67, 84, 32, 84, 65, 66, 76, 69, 83, 65, 77, 80, 76, 69, 32, 84, 72]).append ([69, 78, 32, 84, 79, 32, 84, 82, 69, 65, 84, 32, 84, 82, 85, 69, 32, 85, 78, 66, 79, 85, 78, 68, 69, 68, 32, 85, 78, 73, 79, 78, 32, 85, 78, 78, 69, 83].append [84, 32, 85, 83, 73, 78, 71, 32, 87, 72, 69, 78, 32, 87, 72, 69, 82, 69, 32, 87, 73, 78, 68, 79, 87, 32, 87, 73, 84, 72, 32, 87, 73, 84, 72, 73, 78, 32])))).toArray⟩ : ByteArray) = K from hK]
  have HK := Aside0.mk hK
  have hks : (K.size : Int) = 601 := by rw [← hK, kwText_size]; rfl
  clear hK
  go_wp2
  go_loopg [3] 602 (fun kq v3 wr => ∃ i : Int, v3 = .int .i64 i ∧ Aside0 (0 ≤ i ∧ i ≤ 601 ∧ (∀ j : Int, 0 ≤ j → j < i → j + u.size + 1 < 601 → hasAt K u j = false) ∧ (601 - i).toNat < kq) ∧ wr = w)
  case atStart => exact ⟨0, rfl, ⟨by omega, by omega, fun j h1 h2 => by omega, by omega⟩, rfl⟩
  case round =>
    obtain ⟨i, rfl, HA, rfl⟩ := hrel
    have i0 := HA.out.1
    have i1 := HA.out.2.1
    have w1 := iwrap (i + u.size) (by omega) (by omega)
    have w2 := iwrap (i + u.size + 1) (by omega) (by omega)
    by_cases hi : i + u.size + 1 < 601
    · have hd : decide (i + u.size + 1 < 601) = true := decide_eq_true hi
      have w3 := iwrap (i + 1) (by omega) (by omega)
      have w4 := iwrap (i + 1 + u.size) (by omega) (by omega)
      have x1 := bt_at K i
      have x2 := bt_at K (i + 1 + u.size)
      have b1 : 0 ≤ i + 1 := by omega
      have b2 : i + 1 ≤ i + 1 + u.size := by omega
      have b3 : i + 1 + u.size ≤ (K.size : Int) := by omega
      have b4 : 0 ≤ i + 1 + u.size := by omega
      have b5 : i + 1 + u.size < (K.size : Int) := by omega
      have b6 : i < (K.size : Int) := by omega
      cases c1 : (bt K i == 32) with
      | false =>
        go_wp2_with (first | (go_at_call 61; (with_reducible refine (lSpaced_c _ _ hs HN.out).mono ?_); rintro e w' ⟨rfl, hw'⟩; obtain rfl := hw'.symm))
        go_roundg ((601 - (i + 1)).toNat + 1)
        case measure => have := HA.out.2.2.2; omega
        case rel => exact ⟨i + 1, rfl, ⟨by omega, by omega, fun j j0 j1 j2 => by
          by_cases hj : j = i
          · subst hj
            unfold hasAt
            rw [c1]; rfl
          · exact HA.out.2.2.1 j j0 (by omega) j2, by omega⟩, rfl⟩
      | true =>
        cases c2 : ((K.extract (i + 1).toNat (i + 1 + u.size).toNat).toList == u.toList) with
        | false =>
          go_wp2_with (first | (go_at_call 61; (with_reducible refine (lSpaced_c _ _ hs HN.out).mono ?_); rintro e w' ⟨rfl, hw'⟩; obtain rfl := hw'.symm))
          go_roundg ((601 - (i + 1)).toNat + 1)
          case measure => have := HA.out.2.2.2; omega
          case rel => exact ⟨i + 1, rfl, ⟨by omega, by omega, fun j j0 j1 j2 => by
            by_cases hj : j = i
            · subst hj
              unfold hasAt
              rw [c2, Bool.false_and, Bool.and_false]
            · exact HA.out.2.2.1 j j0 (by omega) j2, by omega⟩, rfl⟩
        | true =>
          cases c3 : (bt K (i + 1 + u.size) == 32) with
          | false =>
            go_wp2_with (first | (go_at_call 61; (with_reducible refine (lSpaced_c _ _ hs HN.out).mono ?_); rintro e w' ⟨rfl, hw'⟩; obtain rfl := hw'.symm))
            go_roundg ((601 - (i + 1)).toNat + 1)
            case measure => have := HA.out.2.2.2; omega
            case rel => exact ⟨i + 1, rfl, ⟨by omega, by omega, fun j j0 j1 j2 => by
              by_cases hj : j = i
              · subst hj
                unfold hasAt
                rw [c3, Bool.and_false, Bool.and_false]
              · exact HA.out.2.2.1 j j0 (by omega) j2, by omega⟩, rfl⟩
          | true =>
            have hh : Aside0 (kw u.toList = true) := ⟨by
              have hha : hasAt K u i = true := by unfold hasAt; rw [c1, c2, c3]; rfl
              have := words_yes K u kwWords (by rw [← HK.out]; exact kwText_list) kwWords_blank HU.out i i0 (by omega) hha
              exact kwWords_yes _ this⟩
            go_wp2_with (first | (go_at_call 61; (with_reducible refine (lSpaced_c _ _ hs HN.out).mono ?_); rintro e w' ⟨rfl, hw'⟩; obtain rfl := hw'.symm))
            go_ret
            exact ⟨ret_bool (by rw [hh.out]; exact decide_eq_true (by omega)), rfl⟩
    · have hd : decide (i + u.size + 1 < 601) = false := decide_eq_false hi
      have hh : Aside0 (kw u.toList = false) := ⟨by
        have := words_no K u kwWords (by rw [← HK.out]; exact kwText_list) (fun j j0 j1 => HA.out.2.2.1 j j0 (by omega) (by omega))
        rw [← Bool.not_eq_true]
        intro hc
        exact this (kwWords_all _ (List.contains_iff_mem.1 hc))⟩
      go_wp2_with (first | (go_at_call 61; (with_reducible refine (lSpaced_c _ _ hs HN.out).mono ?_); rintro e w' ⟨rfl, hw'⟩; obtain rfl := hw'.symm))
      go_ret
      exact ⟨ret_bool hh.out.symm, rfl⟩
end Go.Proofs.YtjepdlmcombmcaaGreatDoor.Lx
