/- The law of the types' cases: what FnTypeCase answers. Conditions: the number is a byte. -/
import Derived.Test.YtjepdlmcombmcaaGreatDoorMc
import Derived.Test.YtjepdlmcombmcaaGreatDoorLy
namespace Go.Proofs.YtjepdlmcombmcaaGreatDoor.Lx
open Go.RowKit Go.Proofs.YtjepdlmcombmcaaGreatDoorW.PrintWords

def tens : List (ByteArray × Int) := [(⟨#[66, 79, 79, 76]⟩, 0), (⟨#[73, 78, 84, 54, 52]⟩, 1), (⟨#[70, 76, 79, 65, 84, 51, 50]⟩, 2), (⟨#[70, 76, 79, 65, 84, 54, 52]⟩, 3), (⟨#[83, 84, 82, 73, 78, 71]⟩, 7), (⟨#[66, 89, 84, 69, 83]⟩, 8), (⟨#[68, 65, 84, 69]⟩, 4), (⟨#[84, 73, 77, 69, 83, 84, 65, 77, 80]⟩, 5), (⟨#[78, 85, 77, 69, 82, 73, 67]⟩, 6), (⟨#[74, 83, 79, 78]⟩, 9)]
def tenOf (k : Int) : ByteArray := (tens.getD k.toNat (⟨#[]⟩, 0)).1
def tenJ (k : Int) : Int := (tens.getD k.toNat (⟨#[]⟩, 0)).2
def tenCells : Array Value := #[.string ⟨#[66, 79, 79, 76]⟩, .string ⟨#[73, 78, 84, 54, 52]⟩, .string ⟨#[70, 76, 79, 65, 84, 51, 50]⟩, .string ⟨#[70, 76, 79, 65, 84, 54, 52]⟩, .string ⟨#[83, 84, 82, 73, 78, 71]⟩, .string ⟨#[66, 89, 84, 69, 83]⟩, .string ⟨#[68, 65, 84, 69]⟩, .string ⟨#[84, 73, 77, 69, 83, 84, 65, 77, 80]⟩, .string ⟨#[78, 85, 77, 69, 82, 73, 67]⟩, .string ⟨#[74, 83, 79, 78]⟩]
theorem ten_named (k : Int) (h0 : 0 ≤ k) (h1 : k < 10) : Named (tenOf k) (tenJ k) := by
  obtain ⟨n, rfl⟩ := Int.eq_ofNat_of_zero_le h0
  have hn : n < 10 := by omega
  match n, hn with
  | 0, _ => exact named0
  | 1, _ => exact named1
  | 2, _ => exact named2
  | 3, _ => exact named3
  | 4, _ => exact named4
  | 5, _ => exact named5
  | 6, _ => exact named6
  | 7, _ => exact named7
  | 8, _ => exact named8
  | 9, _ => exact named9
theorem ten_cell (k : Int) (h0 : 0 ≤ k) (h1 : k < 10) : tenCells[k.toNat]? = some (.string (tenOf k)) := by
  obtain ⟨n, rfl⟩ := Int.eq_ofNat_of_zero_le h0
  have hn : n < 10 := by omega
  match n, hn with
  | 0, _ => rfl
  | 1, _ => rfl
  | 2, _ => rfl
  | 3, _ => rfl
  | 4, _ => rfl
  | 5, _ => rfl
  | 6, _ => rfl
  | 7, _ => rfl
  | 8, _ => rfl
  | 9, _ => rfl

theorem sameStrings_nil (w : World) : Calls Tryz.prog 20 #[.slice none 0 0, .slice none 0 0] w fun e w' => e = .returned (.bool true) ∧ w' = w := by
  go_enter Tryz.func20, Tryz.ntmps20
  go_wp2
  go_loopg [13] 1 (fun kq v13 wr => v13 = .int .i64 0 ∧ wr = w)
  case atStart => exact ⟨rfl, rfl⟩
  case round =>
    obtain ⟨rfl, rfl⟩ := hrel
    go_wp2
    go_ret
    exact ⟨rfl, rfl⟩
theorem sameTypes_nil (w : World) : Calls Tryz.prog 21 #[.slice none 0 0, .slice none 0 0] w fun e w' => e = .returned (.bool true) ∧ w' = w := by
  go_enter Tryz.func21, Tryz.ntmps21
  go_wp2
  go_loopg [13] 1 (fun kq v13 wr => v13 = .int .i64 0 ∧ wr = w)
  case atStart => exact ⟨rfl, rfl⟩
  case round =>
    obtain ⟨rfl, rfl⟩ := hrel
    go_wp2
    go_ret
    exact ⟨rfl, rfl⟩
set_option maxHeartbeats 1000000 in
theorem sameType_c (k n : ByteArray) (w : World) :
    Calls Tryz.prog 13 #[.agg #[.string k, .string n, .string ⟨#[]⟩, .slice none 0 0, .slice none 0 0], .agg #[.string k, .string n, .string ⟨#[]⟩, .slice none 0 0, .slice none 0 0]] w fun e w' => e = .returned (.bool true) ∧ Below w.heap.size w w' := by
  have e1 : (k.toList == k.toList) = true := beq_self_eq_true _
  have e2 : (n.toList == n.toList) = true := beq_self_eq_true _
  go_enter Tryz.func13, Tryz.ntmps13
  go_wp2_with (first
    | (go_at_call 20; (with_reducible refine (sameStrings_nil _).mono ?_); rintro e w' ⟨rfl, rfl⟩)
    | (go_at_call 21; (with_reducible refine (sameTypes_nil _).mono ?_); rintro e w' ⟨rfl, rfl⟩))
  go_ret
  exact ⟨rfl, below_alloc (below_alloc (Below.refl _ _) _) _⟩

theorem Named.nobs {n t : ByteArray} {j : Int} (hN : Named n j) (hT : Turn n t) : ∀ i : Int, 0 ≤ i → i < (t.size : Int) → bt t i ≠ 92 := by
  intro i h0 h1
  have hb := hN.bytes i h0 (by have := hT.size; omega)
  have ht := hT.at_ i
  unfold TurnB at ht
  omega
theorem Named.nobsA {n t : ByteArray} {j : Int} (hN : Named n j) (hT : Turn n t) : ∀ i : Int, 0 ≤ i → i < ((arrayOf t).size : Int) → bt (arrayOf t) i ≠ 92 := by
  intro i h0 h1
  rw [arrayOf_size] at h1
  by_cases h6 : i < 6
  · rw [arrayOf_lo t i h0 h6]
    have : i = 0 ∨ i = 1 ∨ i = 2 ∨ i = 3 ∨ i = 4 ∨ i = 5 := by omega
    rcases this with rfl | rfl | rfl | rfl | rfl | rfl <;> decide
  · by_cases hn : i < 6 + (t.size : Int)
    · have e : i = 6 + (i - 6) := by omega
      rw [e, arrayOf_mid t (i - 6) (by omega) (by omega)]
      exact hN.nobs hT (i - 6) (by omega) (by omega)
    · have e : i = 6 + (t.size : Int) := by omega
      rw [e, arrayOf_end]
      decide

set_option maxRecDepth 100000 in
set_option maxHeartbeats 4000000 in
theorem fnTypeCase_c (n bits : Int) (w : World) (h0 : 0 ≤ n) (h1 : n ≤ 255) :
    Calls Tryz.prog 4 #[.int .u8 n, .int .u64 bits] w fun e w' => e = .returned (.bool true) ∧ Below w.heap.size w w' := by
  have hc : (w.alloc (.cells #[.string ⟨#[66, 79, 79, 76]⟩, .string ⟨#[73, 78, 84, 54, 52]⟩, .string ⟨#[70, 76, 79, 65, 84, 51, 50]⟩, .string ⟨#[70, 76, 79, 65, 84, 54, 52]⟩, .string ⟨#[83, 84, 82, 73, 78, 71]⟩, .string ⟨#[66, 89, 84, 69, 83]⟩, .string ⟨#[68, 65, 84, 69]⟩, .string ⟨#[84, 73, 77, 69, 83, 84, 65, 77, 80]⟩, .string ⟨#[78, 85, 77, 69, 82, 73, 67]⟩, .string ⟨#[74, 83, 79, 78]⟩] 9)).cell? ⟨w.heap.size, (n % 10).toNat, none⟩ = some (.string (tenOf (n % 10))) := (blk_cell (blk_new w (.cells tenCells 9)) _).trans (ten_cell (n % 10) (by omega) (by omega))
  have hN := Aside0.mk (ten_named (n % 10) (by omega) (by omega))
  generalize tenOf (n % 10) = nm at *
  generalize tenJ (n % 10) = j at *
  have hlo := hN.out.lo
  have hhi := hN.out.hi
  have e1 : (nm.toList == nm.toList) = true := beq_self_eq_true _
  go_enter Tryz.func4, Tryz.ntmps4
  go_wp2_with (first
    | (go_at_call 12; (with_reducible refine (turned_c nm bits _ (by omega)).mono ?_); rintro e w3 ⟨zs, rfl, hT3, hb3⟩; have HT3 := Aside0.mk hT3.turn; have C7 := blk_below B7 hb3; clear hT3;
       have hz3 := HT3.out.size; have u1 : ¬ 9223372036854775807 < 6 + (strOfNums zs).size := (by omega); have u2 : ¬ 9223372036854775807 < 6 + (strOfNums zs).size + 1 := (by omega);
       have HP3 : Aside0 (Parses ((⟨#[97, 114, 114, 97, 121, 60]⟩ ++ strOfNums zs) ++ ⟨#[62]⟩ : ByteArray) true nm) := ⟨hN.out.parsesA HT3.out⟩; have HB3 : Aside0 (∀ i : Int, 0 ≤ i → i < (((⟨#[97, 114, 114, 97, 121, 60]⟩ ++ strOfNums zs) ++ ⟨#[62]⟩ : ByteArray).size : Int) → bt ((⟨#[97, 114, 114, 97, 121, 60]⟩ ++ strOfNums zs) ++ ⟨#[62]⟩ : ByteArray) i ≠ 92) := ⟨hN.out.nobsA HT3.out⟩;
       have HZ3 : Aside0 ((((⟨#[97, 114, 114, 97, 121, 60]⟩ ++ strOfNums zs) ++ ⟨#[62]⟩ : ByteArray).size : Int) ≤ 1000000) := ⟨(by have h7 := arrayOf_size (strOfNums zs); show ((arrayOf (strOfNums zs)).size : Int) ≤ 1000000; omega)⟩; clear hz3)
    | (go_at_call 12; (with_reducible refine (turned_c nm bits _ (by omega)).mono ?_); rintro e w1 ⟨ys, rfl, hT1, hb1⟩; have HT1 := Aside0.mk hT1.turn; clear hT1)
    | (go_at_call 11; (with_reducible refine (readTyp_c (strOfNums ys) false nm _ (hN.out.parses HT1.out) (by have := HT1.out.size; omega) (hN.out.nobs HT1.out)).mono ?_); rintro e w2 ⟨k1, n1, A1, l1, rfl, hb2, hR1⟩;
       rcases hR1 with ⟨_, rfl, hn1, rfl, rfl⟩ | ⟨hR1, _⟩; rotate_left; cases hR1;
       obtain rfl := hn1.symm;
       have B7 := blk_new w2 (.cells (#[Value.string ⟨#[115, 105, 109, 112, 108, 101]⟩, Value.string nm, Value.string ⟨#[]⟩, Value.slice none 0 0, Value.slice none 0 0]) 34))
    | (go_at_call 11; (with_reducible refine (readTyp_c _ true nm _ HP3.out HZ3.out HB3.out).mono ?_); rintro e w4 ⟨k2, n2, A2, l2, rfl, hb4, hR2⟩;
       rcases hR2 with ⟨hR2, _⟩ | ⟨_, rfl, rfl, rfl, g, rfl, hg, hG⟩; cases hR2;
       have D7 := blk_below C7 hb4; have E7 := blk_alloc D7 (.cells (#[Value.string ⟨#[97, 114, 114, 97, 121]⟩, Value.string ⟨#[]⟩, Value.string ⟨#[]⟩, Value.slice none 0 0, Value.slice (some (Addr.mk g 0 none)) 1 1]) 34); have EG := blk_alloc hG (.cells (#[Value.string ⟨#[97, 114, 114, 97, 121]⟩, Value.string ⟨#[]⟩, Value.string ⟨#[]⟩, Value.slice none 0 0, Value.slice (some (Addr.mk g 0 none)) 1 1]) 34);
       have p0 : (w4.alloc (.cells (#[Value.string ⟨#[97, 114, 114, 97, 121]⟩, Value.string ⟨#[]⟩, Value.string ⟨#[]⟩, Value.slice none 0 0, Value.slice (some (Addr.mk g 0 none)) 1 1]) 34)).cell? ⟨w2.heap.size, 0, none⟩ = some (.string ⟨#[115, 105, 109, 112, 108, 101]⟩) := ((blk_cell E7 0).trans rfl); have p1 : (w4.alloc (.cells (#[Value.string ⟨#[97, 114, 114, 97, 121]⟩, Value.string ⟨#[]⟩, Value.string ⟨#[]⟩, Value.slice none 0 0, Value.slice (some (Addr.mk g 0 none)) 1 1]) 34)).cell? ⟨w2.heap.size, 1, none⟩ = some (.string nm) := ((blk_cell E7 1).trans rfl); have p2 : (w4.alloc (.cells (#[Value.string ⟨#[97, 114, 114, 97, 121]⟩, Value.string ⟨#[]⟩, Value.string ⟨#[]⟩, Value.slice none 0 0, Value.slice (some (Addr.mk g 0 none)) 1 1]) 34)).cell? ⟨w2.heap.size, 2, none⟩ = some (.string ⟨#[]⟩) := ((blk_cell E7 2).trans rfl); have p3 : (w4.alloc (.cells (#[Value.string ⟨#[97, 114, 114, 97, 121]⟩, Value.string ⟨#[]⟩, Value.string ⟨#[]⟩, Value.slice none 0 0, Value.slice (some (Addr.mk g 0 none)) 1 1]) 34)).cell? ⟨w2.heap.size, 3, none⟩ = some (.slice none 0 0) := ((blk_cell E7 3).trans rfl); have p4 : (w4.alloc (.cells (#[Value.string ⟨#[97, 114, 114, 97, 121]⟩, Value.string ⟨#[]⟩, Value.string ⟨#[]⟩, Value.slice none 0 0, Value.slice (some (Addr.mk g 0 none)) 1 1]) 34)).cell? ⟨w2.heap.size, 4, none⟩ = some (.slice none 0 0) := ((blk_cell E7 4).trans rfl); 
       have r0 : (w4.alloc (.cells (#[Value.string ⟨#[97, 114, 114, 97, 121]⟩, Value.string ⟨#[]⟩, Value.string ⟨#[]⟩, Value.slice none 0 0, Value.slice (some (Addr.mk g 0 none)) 1 1]) 34)).cell? ⟨g, 0, none⟩ = some (.string ⟨#[115, 105, 109, 112, 108, 101]⟩) := ((blk_cell EG 0).trans rfl); have y0 : (w4.alloc (.cells (#[Value.string ⟨#[97, 114, 114, 97, 121]⟩, Value.string ⟨#[]⟩, Value.string ⟨#[]⟩, Value.slice none 0 0, Value.slice (some (Addr.mk g 0 none)) 1 1]) 34)).cell? ⟨w4.heap.size, 0, none⟩ = some (.string ⟨#[97, 114, 114, 97, 121]⟩) := ((blk_cell (blk_new w4 (.cells (#[Value.string ⟨#[97, 114, 114, 97, 121]⟩, Value.string ⟨#[]⟩, Value.string ⟨#[]⟩, Value.slice none 0 0, Value.slice (some (Addr.mk g 0 none)) 1 1]) 34)) 0).trans rfl); have r1 : (w4.alloc (.cells (#[Value.string ⟨#[97, 114, 114, 97, 121]⟩, Value.string ⟨#[]⟩, Value.string ⟨#[]⟩, Value.slice none 0 0, Value.slice (some (Addr.mk g 0 none)) 1 1]) 34)).cell? ⟨g, 1, none⟩ = some (.string nm) := ((blk_cell EG 1).trans rfl); have y1 : (w4.alloc (.cells (#[Value.string ⟨#[97, 114, 114, 97, 121]⟩, Value.string ⟨#[]⟩, Value.string ⟨#[]⟩, Value.slice none 0 0, Value.slice (some (Addr.mk g 0 none)) 1 1]) 34)).cell? ⟨w4.heap.size, 1, none⟩ = some (.string ⟨#[]⟩) := ((blk_cell (blk_new w4 (.cells (#[Value.string ⟨#[97, 114, 114, 97, 121]⟩, Value.string ⟨#[]⟩, Value.string ⟨#[]⟩, Value.slice none 0 0, Value.slice (some (Addr.mk g 0 none)) 1 1]) 34)) 1).trans rfl); have r2 : (w4.alloc (.cells (#[Value.string ⟨#[97, 114, 114, 97, 121]⟩, Value.string ⟨#[]⟩, Value.string ⟨#[]⟩, Value.slice none 0 0, Value.slice (some (Addr.mk g 0 none)) 1 1]) 34)).cell? ⟨g, 2, none⟩ = some (.string ⟨#[]⟩) := ((blk_cell EG 2).trans rfl); have y2 : (w4.alloc (.cells (#[Value.string ⟨#[97, 114, 114, 97, 121]⟩, Value.string ⟨#[]⟩, Value.string ⟨#[]⟩, Value.slice none 0 0, Value.slice (some (Addr.mk g 0 none)) 1 1]) 34)).cell? ⟨w4.heap.size, 2, none⟩ = some (.string ⟨#[]⟩) := ((blk_cell (blk_new w4 (.cells (#[Value.string ⟨#[97, 114, 114, 97, 121]⟩, Value.string ⟨#[]⟩, Value.string ⟨#[]⟩, Value.slice none 0 0, Value.slice (some (Addr.mk g 0 none)) 1 1]) 34)) 2).trans rfl); have r3 : (w4.alloc (.cells (#[Value.string ⟨#[97, 114, 114, 97, 121]⟩, Value.string ⟨#[]⟩, Value.string ⟨#[]⟩, Value.slice none 0 0, Value.slice (some (Addr.mk g 0 none)) 1 1]) 34)).cell? ⟨g, 3, none⟩ = some (.slice none 0 0) := ((blk_cell EG 3).trans rfl); have y3 : (w4.alloc (.cells (#[Value.string ⟨#[97, 114, 114, 97, 121]⟩, Value.string ⟨#[]⟩, Value.string ⟨#[]⟩, Value.slice none 0 0, Value.slice (some (Addr.mk g 0 none)) 1 1]) 34)).cell? ⟨w4.heap.size, 3, none⟩ = some (.slice none 0 0) := ((blk_cell (blk_new w4 (.cells (#[Value.string ⟨#[97, 114, 114, 97, 121]⟩, Value.string ⟨#[]⟩, Value.string ⟨#[]⟩, Value.slice none 0 0, Value.slice (some (Addr.mk g 0 none)) 1 1]) 34)) 3).trans rfl); have r4 : (w4.alloc (.cells (#[Value.string ⟨#[97, 114, 114, 97, 121]⟩, Value.string ⟨#[]⟩, Value.string ⟨#[]⟩, Value.slice none 0 0, Value.slice (some (Addr.mk g 0 none)) 1 1]) 34)).cell? ⟨g, 4, none⟩ = some (.slice none 0 0) := ((blk_cell EG 4).trans rfl); have y4 : (w4.alloc (.cells (#[Value.string ⟨#[97, 114, 114, 97, 121]⟩, Value.string ⟨#[]⟩, Value.string ⟨#[]⟩, Value.slice none 0 0, Value.slice (some (Addr.mk g 0 none)) 1 1]) 34)).cell? ⟨w4.heap.size, 4, none⟩ = some (.slice (some (Addr.mk g 0 none)) 1 1) := ((blk_cell (blk_new w4 (.cells (#[Value.string ⟨#[97, 114, 114, 97, 121]⟩, Value.string ⟨#[]⟩, Value.string ⟨#[]⟩, Value.slice none 0 0, Value.slice (some (Addr.mk g 0 none)) 1 1]) 34)) 4).trans rfl); ))
  have hbF := below_alloc hb4 (.cells (#[Value.string ⟨#[97, 114, 114, 97, 121]⟩, Value.string ⟨#[]⟩, Value.string ⟨#[]⟩, Value.slice none 0 0, Value.slice (some (Addr.mk g 0 none)) 1 1]) 34)
  generalize w4.alloc (.cells (#[Value.string ⟨#[97, 114, 114, 97, 121]⟩, Value.string ⟨#[]⟩, Value.string ⟨#[]⟩, Value.slice none 0 0, Value.slice (some (Addr.mk g 0 none)) 1 1]) 34) = Wf at *
  go_still_tail 32, (by kernel_rfl)
  go_wp2_with (first
    | (go_at_call 13; (with_reducible refine (sameType_c _ nm _).mono ?_); rintro e w5 ⟨rfl, hb5⟩))
  go_ret
  have z1 : ∀ o, (w.alloc o).heap.size = w.heap.size + 1 := by intro o; simp [go_sem]
  have hB1 : Below w.heap.size w w1 := below_weaken (below_alloc (Below.refl _ _) _) (by rw [z1]; omega) hb1
  have hB5 := below_step (below_step (below_alloc (below_step hB1 hb2) _) hb3) hbF
  exact ⟨rfl, below_step (pw_below_drewN hB5 _) hb5⟩
end Go.Proofs.YtjepdlmcombmcaaGreatDoor.Lx
