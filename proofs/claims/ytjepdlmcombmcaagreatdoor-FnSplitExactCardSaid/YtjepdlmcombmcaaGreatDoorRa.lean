/- The reference's capitals: what spec.Upper returns. Condition: the text is no longer than a million bytes. -/
import Derived.Test.YtjepdlmcombmcaaGreatDoorGa
namespace Go.Proofs.YtjepdlmcombmcaaGreatDoor.Lx
open Go.RowKit Go.Proofs.YtjepdlmcombmcaaGreatDoorW.PrintWords

/-- The numbers of a text of which the first i are in capitals. -/
def upTo (s : ByteArray) (i : Int) : List Int := ((nb s).take i.toNat).map up ++ (nb s).drop i.toNat
theorem upTo_zero (s : ByteArray) : upTo s 0 = nb s := by simp [upTo]
theorem upTo_all {s : ByteArray} {i : Int} (h : (s.size : Int) ≤ i) : upTo s i = (nb s).map up := by
  have hl := nb_length s
  unfold upTo
  rw [List.take_of_length_le (by omega), List.drop_eq_nil_of_le (by omega), List.append_nil]
theorem upTo_length (s : ByteArray) (i : Int) : (upTo s i).length = s.size := by
  have hl := nb_length s
  unfold upTo
  rw [List.length_append, List.length_map, ← List.length_append, List.take_append_drop, hl]
theorem upTo_get {s : ByteArray} {i : Int} (h0 : 0 ≤ i) (h1 : i < (s.size : Int)) : (upTo s i).getD i.toNat 0 = bt s i := by
  have hl := nb_length s
  have hp := pre_length s i (by omega)
  unfold upTo
  rw [List.getD_eq_getElem?_getD, List.getElem?_append_right (by rw [List.length_map, hp]; exact Nat.le_refl _), List.length_map, hp, Nat.sub_self, List.getElem?_drop, Nat.add_zero, nb_get s i h0 h1]
  rfl
theorem upTo_set {s : ByteArray} {i : Int} (h0 : 0 ≤ i) (h1 : i < (s.size : Int)) : (upTo s i).set i.toNat (up (bt s i)) = upTo s (i + 1) := by
  have hl := nb_length s
  have hp := pre_length s i (by omega)
  have e : (i + 1).toNat = i.toNat + 1 := by omega
  have hg := nb_get s i h0 h1
  obtain ⟨hlt, hv⟩ := List.getElem?_eq_some_iff.1 hg
  unfold upTo
  rw [List.set_append_right _ _ (by rw [List.length_map, hp]; exact Nat.le_refl _), List.length_map, hp, Nat.sub_self, pre_succ s i h0 h1, List.map_append, e, List.drop_eq_getElem_cons hlt, List.set_cons_zero, List.append_assoc]
  rfl
theorem upTo_same {s : ByteArray} {i : Int} (h0 : 0 ≤ i) (h1 : i < (s.size : Int)) (hu : up (bt s i) = bt s i) : upTo s i = upTo s (i + 1) := by
  rw [← upTo_set h0 h1, hu, ← upTo_get h0 h1]
  have hl := upTo_length s i
  have hi : i.toNat < (upTo s i).length := by omega
  rw [List.getD_eq_getElem?_getD, List.getElem?_eq_getElem hi]
  simp

set_option maxRecDepth 100000 in
set_option maxHeartbeats 1000000 in
theorem specUpper_c (s : ByteArray) (w : World) (hs : (s.size : Int) ≤ 1000000) :
    Calls Tryz.prog 44 #[.string s] w fun e w' => e = .returned (.string (upS s)) ∧ Below w.heap.size w w' := by
  have hcv := Lib.run_convert_string_bytes (P := Tryz.prog) w 9 50 5 s Tryz.underlying9 Tryz.underlying50 Tryz.underlying5
  have HO := own_conv w s (by omega)
  have HB := below_conv w s
  generalize hW : Lib.bytesWorld w 5 s = W at *
  generalize grownCap w s.size 0 5 = cap at *
  go_enter Tryz.func44, Tryz.ntmps44
  go_wp2
  go_loopg [4] (s.size + 1) (fun kq v4 wr => ∃ i : Int, v4 = .int .i64 i ∧ Aside0 (0 ≤ i ∧ i ≤ (s.size : Int) ∧ ((s.size : Int) - i).toNat < kq) ∧ Aside0 (OwnB wr w.heap.size (.slice (some ⟨w.heap.size, 0, none⟩) s.size cap) (upTo s i)) ∧ Aside0 (Below w.heap.size w wr))
  case atStart => exact ⟨_, rfl, ⟨by omega, by omega, by omega⟩, ⟨by rw [upTo_zero]; exact HO⟩, ⟨HB⟩⟩
  case round =>
    obtain ⟨i, rfl, HA, HY, HBr⟩ := hrel
    have i0 := HA.out.1
    have i1 := HA.out.2.1
    by_cases hi : i < (s.size : Int)
    · obtain ⟨g, cap', hv, hg, hgs, hle, hcap, hcell, hset⟩ := HY.out.form
      injection hv with e1 e2 e3
      injection e1 with e1
      injection e1 with e1
      subst e1 e3
      have hj : i.toNat < (upTo s i).length := by rw [upTo_length]; omega
      have hc := hcell i.toNat hj
      have hc1 := hc.1
      have hc2 := hc.2
      rw [upTo_get i0 hi] at hc1
      have hw := iwrap (i + 1) (by omega) (by omega)
      have hSet := Aside0.mk (hset i.toNat (bt s i - 32) hj)
      have hb := bt_range s i
      have hb0 := hb.1
      have hb1 := hb.2
      have hbase : w.heap.size ≤ w.heap.size := Nat.le_refl _
      clear hset hc hcell hj e2 hb
      by_cases hcase : 97 ≤ bt s i ∧ bt s i ≤ 122
      · obtain ⟨a0, a1⟩ := hcase
        have hu : Aside0 (up (bt s i) = bt s i - 32) := ⟨by unfold up; rw [if_pos ⟨a0, a1⟩]⟩
        go_wp2
        go_roundg (((s.size : Int) - (i + 1)).toNat + 1)
        case measure => have := HA.out.2.2; omega
        case rel => exact ⟨i + 1, rfl, ⟨by omega, by omega, by omega⟩, ⟨by rw [← upTo_set i0 hi, hu.out]; exact hSet.out⟩, ⟨below_set HBr.out (Nat.le_refl _)⟩⟩
      · have hu : Aside0 (up (bt s i) = bt s i) := ⟨by unfold up; rw [if_neg hcase]⟩
        have hc' : decide (97 ≤ bt s i) = false ∨ 97 ≤ bt s i ∧ decide (bt s i ≤ 122) = false := by
          by_cases c0 : 97 ≤ bt s i
          · exact .inr ⟨c0, decide_eq_false (fun c1 => hcase ⟨c0, c1⟩)⟩
          · exact .inl (decide_eq_false c0)
        clear hcase
        rcases hc' with c0 | ⟨c1, c0⟩
        all_goals
          go_wp2
          go_roundg (((s.size : Int) - (i + 1)).toNat + 1)
          case measure => have := HA.out.2.2; omega
          case rel => exact ⟨i + 1, rfl, ⟨by omega, by omega, by omega⟩, ⟨by rw [← upTo_same i0 hi hu.out]; exact HY.out⟩, HBr⟩
    · have hall : upTo s i = (nb s).map up := upTo_all (by omega)
      have HOr := HY.out
      rw [hall] at HOr
      have hst := HOr.to_string Tryz.prog 50 9 Tryz.underlying50 Tryz.underlying5 Tryz.underlying9
      clear HOr hall
      go_wp2
      go_ret
      exact ⟨rfl, HBr.out⟩
end Go.Proofs.YtjepdlmcombmcaaGreatDoor.Lx
