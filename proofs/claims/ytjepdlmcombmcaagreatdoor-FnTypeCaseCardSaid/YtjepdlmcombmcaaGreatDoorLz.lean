/- A text's letters turned: what turned answers. Condition: the text is no longer than a million bytes. -/
import Derived.Test.YtjepdlmcombmcaaGreatDoorLu
namespace Go.Proofs.YtjepdlmcombmcaaGreatDoor.Lx
open Go.RowKit Go.Proofs.YtjepdlmcombmcaaGreatDoorW.PrintWords

/-- d is c, or the other case of the letter c. -/
def TurnB (c d : Int) : Prop := d = c ∨ (97 ≤ c ∧ c ≤ 122 ∧ d = c - 32) ∨ (65 ≤ c ∧ c ≤ 90 ∧ d = c + 32)
def TurnL (s : ByteArray) (ys : List Int) : Prop := ys.length = s.size ∧ ∀ j : Nat, j < s.size → TurnB (bt s (j : Int)) (ys.getD j 0)
theorem TurnL.first (s : ByteArray) : TurnL s (nb s) := by
  refine ⟨nb_length s, fun j hj => .inl ?_⟩
  have h := nb_get s (j : Int) (by omega) (by omega)
  rw [List.getD_eq_getElem?_getD]
  simpa using congrArg (fun o => o.getD 0) h
theorem TurnL.flip {s : ByteArray} {ys : List Int} (h : TurnL s ys) {j : Nat} (hj : j < s.size) {d : Int} (hd : TurnB (bt s (j : Int)) d) : TurnL s (ys.set j d) := by
  refine ⟨by rw [List.length_set]; exact h.1, fun k hk => ?_⟩
  by_cases hkj : k = j
  · subst hkj
    rw [List.getD_eq_getElem?_getD, List.getElem?_set_self (by rw [h.1]; exact hk)]
    exact hd
  · rw [List.getD_eq_getElem?_getD, List.getElem?_set_ne (Ne.symm hkj), ← List.getD_eq_getElem?_getD]
    exact h.2 k hk

theorem xor_low {c : Int} (h0 : 97 ≤ c) (h1 : c ≤ 122) : Go.bits BinOp.xor IntKind.u8 c 32 = c - 32 := by
  have h : ∀ k : Fin 26, Go.bits BinOp.xor IntKind.u8 (97 + (k : Nat) : Int) 32 = 65 + (k : Nat) := by decide
  have : Go.bits BinOp.xor IntKind.u8 (97 + ((c - 97).toNat : Int)) 32 = 65 + ((c - 97).toNat : Int) := h ⟨(c - 97).toNat, by omega⟩
  have e : (97 + ((c - 97).toNat : Int)) = c := by omega
  rw [e] at this
  rw [this]
  omega
theorem xor_up {c : Int} (h0 : 65 ≤ c) (h1 : c ≤ 90) : Go.bits BinOp.xor IntKind.u8 c 32 = c + 32 := by
  have h : ∀ k : Fin 26, Go.bits BinOp.xor IntKind.u8 (65 + (k : Nat) : Int) 32 = 97 + (k : Nat) := by decide
  have : Go.bits BinOp.xor IntKind.u8 (65 + ((c - 65).toNat : Int)) 32 = 97 + ((c - 65).toNat : Int) := h ⟨(c - 65).toNat, by omega⟩
  have e : (65 + ((c - 65).toNat : Int)) = c := by omega
  rw [e] at this
  rw [this]
  omega

set_option maxRecDepth 100000 in
set_option maxHeartbeats 1000000 in
theorem turned_c (s : ByteArray) (bits : Int) (w : World) (hs : (s.size : Int) ≤ 1000000) :
    Calls Tryz.prog 12 #[.string s, .int .u64 bits] w fun e w' => ∃ ys, e = .returned (.string (strOfNums ys)) ∧ TurnL s ys ∧ Below w.heap.size w w' := by
  have hcv := Lib.run_convert_string_bytes (P := Tryz.prog) w 9 50 5 s Tryz.underlying9 Tryz.underlying50 Tryz.underlying5
  have HO := own_conv w s (by omega)
  have HB := below_conv w s
  generalize hW : Lib.bytesWorld w 5 s = W at *
  generalize grownCap w s.size 0 5 = cap at *
  go_enter Tryz.func12, Tryz.ntmps12
  go_wp2
  go_loopg [13] (s.size + 1) (fun kq v13 wr => ∃ i : Int, v13 = .int .i64 i ∧ Aside0 (0 ≤ i ∧ ((s.size : Int) - i).toNat < kq) ∧ Aside0 (∃ ys, OwnB wr w.heap.size (.slice (some ⟨w.heap.size, 0, none⟩) s.size cap) ys ∧ TurnL s ys) ∧ Aside0 (Below w.heap.size w wr))
  case atStart => exact ⟨_, rfl, ⟨by omega, by omega⟩, ⟨nb s, HO, TurnL.first s⟩, ⟨HB⟩⟩
  case round =>
    obtain ⟨i, rfl, HA, HY, HBr⟩ := hrel
    have i0 := HA.out.1
    by_cases hi : i < (s.size : Int)
    · obtain ⟨ys, HOr, HT⟩ := HY.out
      obtain ⟨g, cap', hv, hg, hgs, hle, hcap, hcell, hset⟩ := HOr.form
      injection hv with e1 e2 e3
      injection e1 with e1
      injection e1 with e1
      subst e1 e3
      have hj : i.toNat < s.size := by omega
      have hc := hcell i.toNat (by rw [HT.1]; exact hj)
      have hc1 := hc.1
      have hc2 := hc.2
      obtain ⟨c, hcc⟩ : ∃ c, ys.getD i.toNat 0 = c := ⟨_, rfl⟩
      rw [hcc] at hc1
      have hSet := Aside0.mk hset
      have hTT := Aside0.mk HT
      have hOO := Aside0.mk HOr
      have hCC := Aside0.mk hcc
      clear hset HT HOr hcc hc hcell
      clear hj e2
      have hcase : (97 ≤ c ∧ c ≤ 122) ∨ (65 ≤ c ∧ c ≤ 90) ∨ c < 65 ∨ (90 < c ∧ c < 97) ∨ 122 < c := by omega
      rcases hcase with ⟨a0, a1⟩ | ⟨a0, a1⟩ | a0 | ⟨a0, a1⟩ | a0
      · have a2 : 65 ≤ c := by omega
        have : decide (c ≤ 90) = false := decide_eq_false (by omega)
        cases hbit : (Go.bits BinOp.and IntKind.u64 (bits / 2 ^ (i % 64).toNat) 1 == 1)
        · go_wp2
          go_quiet (fail)
          go_wp2
          go_roundg (((s.size : Int) - (i + 1)).toNat + 1)
          case measure => have := HA.out.2; omega
          case rel => exact ⟨i + 1, rfl, ⟨by omega, by omega⟩, ⟨ys, hOO.out.drewN _, hTT.out⟩, ⟨pw_below_drewN HBr.out _⟩⟩
        · have hx := xor_low a0 a1
          go_wp2
          go_quiet (fail)
          go_wp2
          go_roundg (((s.size : Int) - (i + 1)).toNat + 1)
          case measure => have := HA.out.2; omega
          case rel =>
            refine ⟨i + 1, rfl, ⟨by omega, by omega⟩, ⟨_, (hSet.out i.toNat _ (by rw [hTT.out.1]; omega)).drewN _, hTT.out.flip (by omega) ?_⟩, ⟨pw_below_drewN (below_set HBr.out (Nat.le_refl _)) _⟩⟩
            have ht := hTT.out.2 i.toNat (by omega)
            rw [hCC.out] at ht
            unfold TurnB at ht ⊢
            omega
      · have : decide (97 ≤ c) = false := decide_eq_false (by omega)
        cases hbit : (Go.bits BinOp.and IntKind.u64 (bits / 2 ^ (i % 64).toNat) 1 == 1)
        · go_wp2
          go_quiet (fail)
          go_wp2
          go_roundg (((s.size : Int) - (i + 1)).toNat + 1)
          case measure => have := HA.out.2; omega
          case rel => exact ⟨i + 1, rfl, ⟨by omega, by omega⟩, ⟨ys, hOO.out.drewN _, hTT.out⟩, ⟨pw_below_drewN HBr.out _⟩⟩
        · have hx := xor_up a0 a1
          go_wp2
          go_quiet (fail)
          go_wp2
          go_roundg (((s.size : Int) - (i + 1)).toNat + 1)
          case measure => have := HA.out.2; omega
          case rel =>
            refine ⟨i + 1, rfl, ⟨by omega, by omega⟩, ⟨_, (hSet.out i.toNat _ (by rw [hTT.out.1]; omega)).drewN _, hTT.out.flip (by omega) ?_⟩, ⟨pw_below_drewN (below_set HBr.out (Nat.le_refl _)) _⟩⟩
            have ht := hTT.out.2 i.toNat (by omega)
            rw [hCC.out] at ht
            unfold TurnB at ht ⊢
            omega
      · have : decide (97 ≤ c) = false := decide_eq_false (by omega)
        have : decide (65 ≤ c) = false := decide_eq_false (by omega)
        go_wp2
        go_quiet (fail)
        go_wp2
        go_roundg (((s.size : Int) - (i + 1)).toNat + 1)
        case measure => have := HA.out.2; omega
        case rel => exact ⟨i + 1, rfl, ⟨by omega, by omega⟩, ⟨ys, hOO.out.drewN _, hTT.out⟩, ⟨pw_below_drewN HBr.out _⟩⟩
      · have : decide (97 ≤ c) = false := decide_eq_false (by omega)
        have a2 : 65 ≤ c := by omega
        have : decide (c ≤ 90) = false := decide_eq_false (by omega)
        go_wp2
        go_quiet (fail)
        go_wp2
        go_roundg (((s.size : Int) - (i + 1)).toNat + 1)
        case measure => have := HA.out.2; omega
        case rel => exact ⟨i + 1, rfl, ⟨by omega, by omega⟩, ⟨ys, hOO.out.drewN _, hTT.out⟩, ⟨pw_below_drewN HBr.out _⟩⟩
      · have a2 : 97 ≤ c := by omega
        have a3 : 65 ≤ c := by omega
        have : decide (c ≤ 122) = false := decide_eq_false (by omega)
        have : decide (c ≤ 90) = false := decide_eq_false (by omega)
        go_wp2
        go_quiet (fail)
        go_wp2
        go_roundg (((s.size : Int) - (i + 1)).toNat + 1)
        case measure => have := HA.out.2; omega
        case rel => exact ⟨i + 1, rfl, ⟨by omega, by omega⟩, ⟨ys, hOO.out.drewN _, hTT.out⟩, ⟨pw_below_drewN HBr.out _⟩⟩
    · obtain ⟨ys, HOr, HT⟩ := HY.out
      have hst := HOr.to_string Tryz.prog 50 9 Tryz.underlying50 Tryz.underlying5 Tryz.underlying9
      have HTT := Aside0.mk HT
      clear HOr HT
      go_wp2
      go_ret
      exact ⟨ys, rfl, HTT.out, HBr.out⟩
end Go.Proofs.YtjepdlmcombmcaaGreatDoor.Lx
