/- Capitals: what ToUpper returns. Condition: the text is no longer than a million bytes. -/
import Derived.Test.YtjepdlmcombmcaaGreatDoorLm
namespace Go.Proofs.YtjepdlmcombmcaaGreatDoor.Lx
open Go.RowKit Go.Proofs.YtjepdlmcombmcaaGreatDoorW.PrintWords

/-- The bytes of a text as numbers. -/
def nb (s : ByteArray) : List Int := s.data.toList.map fun b => (b.toNat : Int)
def up (c : Int) : Int := if 97 ≤ c ∧ c ≤ 122 then c - 32 else c
def upS (s : ByteArray) : ByteArray := strOfNums ((nb s).map up)
theorem nb_length (s : ByteArray) : (nb s).length = s.size := List.length_map _
theorem str_nb (s : ByteArray) : strOfNums (nb s) = s := by
  unfold strOfNums nb
  rw [List.map_map]
  have : (fun n : Int => UInt8.ofNat n.toNat) ∘ (fun b : UInt8 => (b.toNat : Int)) = id := by
    funext b
    simp
  rw [this]
  cases s
  simp
theorem nb_get (s : ByteArray) (i : Int) (h0 : 0 ≤ i) (h1 : i < (s.size : Int)) : (nb s)[i.toNat]? = some (bt s i) := by
  have hn : i.toNat < s.size := by omega
  rw [← bt_at s i hn]
  unfold nb
  rw [List.getElem?_map, Array.getElem?_toList, Array.getElem?_eq_getElem hn]
  rfl
theorem pre_succ (s : ByteArray) (i : Int) (h0 : 0 ≤ i) (h1 : i < (s.size : Int)) : (nb s).take (i + 1).toNat = (nb s).take i.toNat ++ [bt s i] := by
  have e : (i + 1).toNat = i.toNat + 1 := by omega
  rw [e, List.take_add_one, nb_get s i h0 h1]
  rfl
theorem pre_length (s : ByteArray) (i : Int) (h1 : i ≤ (s.size : Int)) : ((nb s).take i.toNat).length = i.toNat := by
  rw [List.length_take, nb_length]
  omega
theorem nb_extract (s : ByteArray) (i : Int) : nb (s.extract 0 i.toNat) = (nb s).take i.toNat := by
  unfold nb
  rw [ByteArray.data_extract, Array.toList_extract, List.extract_eq_take_drop]
  simp [List.map_take]

/-- What bs holds when the first i bytes have been seen. -/
def UpRel (s : ByteArray) (B : Nat) (i : Int) (v : Value) (w : World) : Prop :=
  (v = .slice none 0 0 ∧ ((nb s).take i.toNat).map up = (nb s).take i.toNat) ∨ OwnB w B v (((nb s).take i.toNat).map up)

theorem info5 : (Tryz.prog.info? 5).map (fun i => (i.zero, i.size, i.bytes)) = some (some (.int .u8 0), 1, 1) := by kernel_rfl

set_option maxHeartbeats 1000000 in
theorem toUpper_c (s : ByteArray) (w : World) (hs : (s.size : Int) ≤ 1000000) :
    Calls Tryz.prog 89 #[.string s] w fun e w' => e = .returned (.string (upS s)) ∧ Below w.heap.size w w' := by
  have hn1 := fun (W : World) (a : Option Addr) (l c : Nat) => Lib.run_eql_slice_nil (P := Tryz.prog) W 50 5 a l c 0 0 Tryz.underlying50
  have hn2 := fun (W : World) (a : Option Addr) (l c : Nat) => run_neq_slice_nil_any (P := Tryz.prog) W 50 5 a l c 0 0 Tryz.underlying50
  go_enter Tryz.func89, Tryz.ntmps89
  go_wp2
  go_loopg [3, 4] ((s.size : Int).toNat + 1) (fun kq v3 v4 wr => ∃ i : Int, v4 = .int .i64 i ∧ Aside0 (0 ≤ i ∧ i ≤ (s.size : Int) ∧ ((s.size : Int) - i).toNat < kq) ∧ Aside0 (UpRel s w.heap.size i v3 wr) ∧ Aside0 (Below w.heap.size w wr))
  case atStart => exact ⟨0, rfl, ⟨Int.le_refl _, by omega, by omega⟩, ⟨.inl ⟨rfl, by simp⟩⟩, ⟨Below.refl _ _⟩⟩
  case round =>
    obtain ⟨i, rfl, HA, HR, HB⟩ := hrel
    have i0 := HA.out.1
    by_cases hi : i < (s.size : Int)
    · have hx := bt_at s i
      have hb := bt_range s i
      have hb0 := hb.1
      have hb1 := hb.2
      clear hb
      have hi1 : i ≤ (s.size : Int) := by omega
      have hlen : (((nb s).take i.toNat).map up).length + 1 ≤ 140737488355328 := by rw [List.length_map, pre_length s i hi1]; omega
      rcases HR.out with ⟨rfl, hfix⟩ | hown
      · clear HR
        by_cases hc : 97 ≤ bt s i ∧ bt s i ≤ 122
        · obtain ⟨c0, c1⟩ := hc
          have hy : 65 + (bt s i - 97) = up (bt s i) := by unfold up; rw [if_pos ⟨c0, c1⟩]; omega
          have HY := Aside0.mk hy
          clear hy
          obtain ⟨n, cap, W1, hcv, HO, HB1⟩ : ∃ n cap W1, (convert 9 50 (.string (s.extract 0 i.toNat))).run Tryz.prog wr = .ok (.slice (some ⟨wr.heap.size, 0, none⟩) n cap) W1 ∧ OwnB W1 w.heap.size (.slice (some ⟨wr.heap.size, 0, none⟩) n cap) (((nb s).take i.toNat).map up) ∧ Below wr.heap.size wr W1 := by
            refine ⟨_, _, _, Lib.run_convert_string_bytes (P := Tryz.prog) wr 9 50 5 (s.extract 0 i.toNat) Tryz.underlying9 Tryz.underlying50 Tryz.underlying5, ?_, below_conv wr _⟩
            rw [hfix, ← nb_extract s i]
            exact (own_conv wr (s.extract 0 i.toNat) (by rw [ByteArray.size_extract]; omega)).base_le HB.out.size
          have HF := Aside0.mk hfix
          clear hfix
          have hbase : w.heap.size ≤ W1.heap.size := Nat.le_trans HB.out.size HB1.size
          go_wp2_with (first | (at_builtin; refine append_ownB w.heap.size rfl (.tmp 27) (.tmp 31) 50 rfl Tryz.underlying50 info5 _ _ _ rfl rfl HO hbase hlen ?_; intro v1 w1 hown1 hg1))
          go_roundg (((s.size : Int) - (i + 1)).toNat + 1)
          case measure => have := HA.out.2.2; omega
          case rel =>
            refine ⟨i + 1, rfl, ⟨by omega, by omega, by omega⟩, ⟨.inr ?_⟩, ⟨?_⟩⟩
            · rw [pre_succ s i i0 hi, List.map_append, List.map_singleton, ← HY.out]
              exact hown1
            · exact pw_below_grown (HB.out.trans (HB1.mono HB.out.size)) _ hbase hg1 (fun k hk => HO.own_base k hk)
        · have hy : up (bt s i) = bt s i := by unfold up; rw [if_neg hc]
          have HY := Aside0.mk hy
          have HF := Aside0.mk hfix
          clear hy hfix
          have hc' : decide (97 ≤ bt s i) = false ∨ 97 ≤ bt s i ∧ decide (bt s i ≤ 122) = false := by
            by_cases c0 : 97 ≤ bt s i
            · exact .inr ⟨c0, decide_eq_false (fun c1 => hc ⟨c0, c1⟩)⟩
            · exact .inl (decide_eq_false c0)
          clear hc
          have hrel : Aside0 (UpRel s w.heap.size (i + 1) (.slice none 0 0) wr) := ⟨.inl ⟨rfl, by rw [pre_succ s i i0 hi, List.map_append, HF.out, List.map_singleton, HY.out]⟩⟩
          rcases hc' with c0 | ⟨c1, c0⟩
          · go_wp2
            go_roundg (((s.size : Int) - (i + 1)).toNat + 1)
            case measure => have := HA.out.2.2; omega
            case rel => exact ⟨i + 1, rfl, ⟨by omega, by omega, by omega⟩, hrel, HB⟩
          · go_wp2
            go_roundg (((s.size : Int) - (i + 1)).toNat + 1)
            case measure => have := HA.out.2.2; omega
            case rel => exact ⟨i + 1, rfl, ⟨by omega, by omega, by omega⟩, hrel, HB⟩
      · clear HR
        obtain ⟨g, n, cap, rfl⟩ := hown.shape
        have hbase := HB.out.size
        have hrel : ∀ (v1 : Value) (w1 : World), OwnB w1 w.heap.size v1 (((nb s).take i.toNat).map up ++ [up (bt s i)]) → UpRel s w.heap.size (i + 1) v1 w1 := fun v1 w1 h1 => .inr (by rw [pre_succ s i i0 hi, List.map_append, List.map_singleton]; exact h1)
        have HREL := Aside0.mk hrel
        clear hrel
        by_cases hc : 97 ≤ bt s i ∧ bt s i ≤ 122
        · obtain ⟨c0, c1⟩ := hc
          have hy : 65 + (bt s i - 97) = up (bt s i) := by unfold up; rw [if_pos ⟨c0, c1⟩]; omega
          have HY := Aside0.mk hy
          clear hy
          go_wp2_with (first | (at_builtin; refine append_ownB w.heap.size rfl (.tmp 27) (.tmp 31) 50 rfl Tryz.underlying50 info5 _ _ _ rfl rfl hown hbase hlen ?_; intro v1 w1 hown1 hg1))
          go_roundg (((s.size : Int) - (i + 1)).toNat + 1)
          case measure => have := HA.out.2.2; omega
          case rel => exact ⟨i + 1, rfl, ⟨by omega, by omega, by omega⟩, ⟨HREL.out _ _ (by rw [← HY.out]; exact hown1)⟩, ⟨pw_below_grown HB.out _ hbase hg1 (fun k hk => hown.own_base k hk)⟩⟩
        · have hy : up (bt s i) = bt s i := by unfold up; rw [if_neg hc]
          have HY := Aside0.mk hy
          clear hy
          have hc' : decide (97 ≤ bt s i) = false ∨ 97 ≤ bt s i ∧ decide (bt s i ≤ 122) = false := by
            by_cases c0 : 97 ≤ bt s i
            · exact .inr ⟨c0, decide_eq_false (fun c1 => hc ⟨c0, c1⟩)⟩
            · exact .inl (decide_eq_false c0)
          clear hc
          rcases hc' with c0 | ⟨c1, c0⟩
          · go_wp2_with (first | (at_builtin; refine append_ownB w.heap.size rfl (.tmp 35) (.tmp 37) 50 rfl Tryz.underlying50 info5 _ _ _ rfl rfl hown hbase hlen ?_; intro v1 w1 hown1 hg1))
            go_roundg (((s.size : Int) - (i + 1)).toNat + 1)
            case measure => have := HA.out.2.2; omega
            case rel => exact ⟨i + 1, rfl, ⟨by omega, by omega, by omega⟩, ⟨HREL.out _ _ (by rw [HY.out]; exact hown1)⟩, ⟨pw_below_grown HB.out _ hbase hg1 (fun k hk => hown.own_base k hk)⟩⟩
          · go_wp2_with (first | (at_builtin; refine append_ownB w.heap.size rfl (.tmp 35) (.tmp 37) 50 rfl Tryz.underlying50 info5 _ _ _ rfl rfl hown hbase hlen ?_; intro v1 w1 hown1 hg1))
            go_roundg (((s.size : Int) - (i + 1)).toNat + 1)
            case measure => have := HA.out.2.2; omega
            case rel => exact ⟨i + 1, rfl, ⟨by omega, by omega, by omega⟩, ⟨HREL.out _ _ (by rw [HY.out]; exact hown1)⟩, ⟨pw_below_grown HB.out _ hbase hg1 (fun k hk => hown.own_base k hk)⟩⟩
    · have hall : (nb s).take i.toNat = nb s := List.take_of_length_le (by rw [nb_length]; omega)
      rcases HR.out with ⟨rfl, hfix⟩ | hown
      · clear HR
        rw [hall] at hfix
        have HF := Aside0.mk hfix
        clear hfix hall
        go_wp2
        go_ret
        exact ⟨by unfold upS; rw [HF.out, str_nb]; rfl, HB.out⟩
      · clear HR
        rw [hall] at hown
        clear hall
        obtain ⟨g, n, cap, rfl⟩ := hown.shape
        have hts := hown.to_string Tryz.prog 50 9 Tryz.underlying50 Tryz.underlying5 Tryz.underlying9
        go_wp2
        go_ret
        exact ⟨rfl, HB.out⟩
end Go.Proofs.YtjepdlmcombmcaaGreatDoor.Lx
