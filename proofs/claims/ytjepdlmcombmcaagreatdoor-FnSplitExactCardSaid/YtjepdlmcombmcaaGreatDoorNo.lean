/- Bytes appended to a slice of the call's own, one, two or more at a time; the steps of a quoted content; digits cut out of a text. Plain laws. -/
import Derived.Test.YtjepdlmcombmcaaGreatDoorNk
import Derived.Test.YtjepdlmcombmcaaGreatDoorNl
import Derived.Test.YtjepdlmcombmcaaGreatDoorNm
namespace Go.Proofs.YtjepdlmcombmcaaGreatDoor.Lx
open Go.RowKit Go.Proofs.YtjepdlmcombmcaaGreatDoorW.PrintWords

/-! ### bytes of the call's own, from nothing on -/
def OwnN (w : World) (base : Nat) (v : Value) (xs : List Int) : Prop := w.ownsRow base 5 1 v xs.length (nums .u8 xs)
theorem infoB : (Tryz.prog.info? 5).map (fun i => (i.zero, i.size, i.bytes)) = some (some (.int .u8 0), 1, 1) := by kernel_rfl
section
variable {w : World} {base : Nat} {v : Value} {xs : List Int}
theorem OwnN.shape (h : OwnN w base v xs) : ∃ A C, v = .slice A xs.length C := by
  obtain ⟨hl, ⟨h1, h0⟩ | ⟨g, cap, cur, hv, _⟩⟩ := h
  · exact ⟨none, 0, by rw [h1, h0]⟩
  · exact ⟨_, _, hv⟩
theorem OwnN.nil (w : World) (base : Nat) : OwnN w base (.slice none 0 0) [] := ⟨rfl, .inl ⟨rfl, rfl⟩⟩
theorem OwnN.kept (h : OwnN w base v xs) {w1 : World} {row : Option Nat} (hg : w.grownBy w1 row) (hne : v.ownBlock = none ∨ v.ownBlock ≠ row) : OwnN w1 base v xs := own_other h hg hne
theorem OwnN.below (h : OwnN w base v xs) {w1 : World} (hb : Below w.heap.size w w1) : OwnN w1 base v xs := by
  refine own_other h (grown_of_below hb Option.none) ?_
  cases hv : v.ownBlock with
  | none => exact .inl rfl
  | some k => exact .inr (by simp)
theorem OwnN.drewN (h : OwnN w base v xs) (n : Nat) : OwnN (w.drewN n) base v xs := h.below ⟨rfl, rfl, rfl, Nat.le_refl _, fun _ _ => rfl⟩
theorem OwnN.alloc (h : OwnN w base v xs) (o : Obj) : OwnN (w.alloc o) base v xs := h.below (below_alloc (Below.refl _ _) o)
theorem OwnN.set (h : OwnN w base v xs) {p : Addr} (hp : p.block < base) (u : Value) : OwnN (w.setCell p u) base v xs := by
  refine own_setCell h ?_ u
  intro he
  have := own_base h p.block he.symm
  omega
theorem OwnN.ups (h : OwnN w base v xs) {w1 : World} {g : Nat} (hU : Ups g w w1) (hg : v.ownBlock ≠ some g) : OwnN w1 base v xs :=
  own_other h (row := some g) ⟨hU.os, hU.tape, hU.output, hU.size, fun k hk hne => hU.block k hk (fun e => hne (by rw [e]))⟩ (.inr hg)
theorem OwnN.to_string (h : OwnN w base v xs) : ∃ t, (convert 50 9 v).run Tryz.prog w = .ok (.string t) w := by
  obtain ⟨hl, ⟨h1, h0⟩ | ⟨g, cap, cur, hv, hb, hh, h1, h2, h3, h4⟩⟩ := h
  · rw [h1]
    exact ⟨_, run_convert_bytes_nil w 50 5 Tryz.underlying50 Tryz.underlying5 0 0 9 Tryz.underlying9⟩
  · rw [hv]
    refine ⟨_, run_convert_bytes_arg w 50 5 Tryz.underlying50 Tryz.underlying5 g 0 xs.length cap xs rfl (fun i hi => ?_) 9 Tryz.underlying9⟩
    rw [Nat.zero_add, blk_cell hh i, ← Array.getElem?_toList]
    have h5 : (cur.toList.take (xs.length * 1))[i]? = (nums .u8 xs)[i]? := by rw [h4]
    rw [Nat.mul_one, List.getElem?_take_of_lt hi] at h5
    rw [h5]
    simp [nums, hi, List.getD_eq_getElem?_getD]
end
theorem below_drewN {B : Nat} {u w : World} (h : Below B u w) (n : Nat) : Below B u (w.drewN n) := ⟨h.os, h.tape, h.output, h.size, h.block⟩
section
variable {ops : Array Oper} {rest : List Oper} {o : Oper} {a : Act} {Q : Exit → Act → World → Prop}
theorem append_ownN {w0 W : World} (base : Nat) (hgd : o.guard = none) (s x : Operand)
    (ho : o.op = .call { callee := .builtin .append, args := #[s, x], argTypes := #[50, 50] })
    (v : Value) (xs : List Int) (hs : a.eval s = v) (g m c : Nat) (ys : List Int) (hx : a.eval x = .slice (some ⟨g, 0, none⟩) m c) (hl : ys.length = m)
    (hc : ∀ j u, (nums .u8 ys)[j]? = some u → W.cell? ⟨g, j, none⟩ = some u)
    (HO : OwnN W base v xs) (HB : Below base w0 W) (hbase : base ≤ W.heap.size) (hb : xs.length + m ≤ 100000000)
    (h : ∀ v1 w1, OwnN w1 base v1 (xs ++ ys) → Below base w0 w1 → W.grownBy w1 v.ownBlock → wpList Tryz.prog ops Q rest (a.put o.dst v1) w1) :
    wpList Tryz.prog ops Q (o :: rest) a W := by
  obtain ⟨i0, hi, hzz⟩ := Option.map_eq_some_iff.1 infoB
  simp only [Prod.mk.injEq] at hzz
  obtain ⟨hz0, hz1, hz2⟩ := hzz
  refine wpList_append_own_at W hgd s x 50 ho base 5 i0 (.int .u8 0) 1 1 Tryz.underlying50 hi hz0 hz1 hz2 rfl (by omega) v xs.length (nums .u8 xs) hs HO ⟨g, 0, none⟩ m c (nums .u8 ys) hx (by rw [nums_length, hl]; omega) ?_ ?_ (by simp only [maxLen]; omega) (by omega) hbase ?_
  · intro j u hu
    have hadd : (⟨g, 0, none⟩ : Addr).add j = ⟨g, j, none⟩ := by unfold Addr.add; split <;> simp_all
    rw [hadd]
    exact hc j u hu
  · intro u hu
    unfold nums at hu
    obtain ⟨z, _, rfl⟩ := List.mem_map.1 hu
    rfl
  · intro v1 w1 hown hg _ _
    refine h v1 w1 ?_ (HB.grown hg hbase (own_base HO)) hg
    unfold OwnN
    rw [List.length_append, nums_append, hl]
    exact hown
theorem append_one {w0 W : World} (base : Nat) (hgd : o.guard = none) (s x : Operand)
    (ho : o.op = .call { callee := .builtin .append, args := #[s, x], argTypes := #[50, 50] })
    (v : Value) (xs : List Int) (y : Int) (hs : a.eval s = v) (hx : a.eval x = .slice (some ⟨W.heap.size, 0, none⟩) 1 1)
    (HO : OwnN W base v xs) (HB : Below base w0 W) (hbase : base ≤ W.heap.size) (hb : xs.length + 4 ≤ 100000000)
    (h : ∀ v1 w1, OwnN w1 base v1 (xs ++ [y]) → Below base w0 w1 → wpList Tryz.prog ops Q rest (a.put o.dst v1) w1) :
    wpList Tryz.prog ops Q (o :: rest) a (W.alloc (.cells #[.int .u8 y] 5)) := by
  refine append_ownN (w0 := w0) base hgd s x ho v xs hs W.heap.size 1 1 [y] hx rfl ?_ (HO.alloc _) (HB.alloc hbase _) (by simp [go_sem]; omega) (by omega) (fun v1 w1 h1 h2 _ => h v1 w1 h1 h2)
  intro j u hu
  have := World.news_of_block (cs := #[.int .u8 y]) (t := 5) (fr := (0, 0)) (heap_alloc_new W (.cells #[.int .u8 y] 5)) j u hu
  have hadd : (⟨W.heap.size, 0, none⟩ : Addr).add j = ⟨W.heap.size, j, none⟩ := by unfold Addr.add; split <;> simp_all
  rwa [hadd] at this
theorem append_two {w0 W : World} (base : Nat) (hgd : o.guard = none) (s x : Operand)
    (ho : o.op = .call { callee := .builtin .append, args := #[s, x], argTypes := #[50, 50] })
    (v : Value) (xs : List Int) (y z : Int) (hs : a.eval s = v) (hx : a.eval x = .slice (some ⟨W.heap.size, 0, none⟩) 2 2)
    (HO : OwnN W base v xs) (HB : Below base w0 W) (hbase : base ≤ W.heap.size) (hb : xs.length + 4 ≤ 100000000)
    (h : ∀ v1 w1, OwnN w1 base v1 (xs ++ [y, z]) → Below base w0 w1 → wpList Tryz.prog ops Q rest (a.put o.dst v1) w1) :
    wpList Tryz.prog ops Q (o :: rest) a (W.alloc (.cells #[.int .u8 y, .int .u8 z] 5)) := by
  refine append_ownN (w0 := w0) base hgd s x ho v xs hs W.heap.size 2 2 [y, z] hx rfl ?_ (HO.alloc _) (HB.alloc hbase _) (by simp [go_sem]; omega) (by omega) (fun v1 w1 h1 h2 _ => h v1 w1 h1 h2)
  intro j u hu
  have := World.news_of_block (cs := #[.int .u8 y, .int .u8 z]) (t := 5) (fr := (0, 0)) (heap_alloc_new W (.cells #[.int .u8 y, .int .u8 z] 5)) j u hu
  have hadd : (⟨W.heap.size, 0, none⟩ : Addr).add j = ⟨W.heap.size, j, none⟩ := by unfold Addr.add; split <;> simp_all
  rwa [hadd] at this
end

/-! ### steps of a quoted content -/
/-- Where the content from i on ends. -/
def quoA (s : ByteArray) (c L : Int) (raw bytes : Bool) (i : Int) : Option Int := quoted s c L raw bytes ((s.size : Int) - i).toNat i
section
variable {s : ByteArray} {c L : Int} {raw bytes : Bool} {i : Int}
theorem quoA_eof (h : (s.size : Int) ≤ i) : quoA s c L raw bytes i = none := by
  unfold quoA
  rw [show ((s.size : Int) - i).toNat = 0 by omega]
  rfl
theorem quoA_fuel (h : i < (s.size : Int)) : ∃ k, ((s.size : Int) - i).toNat = k + 1 ∧ ((s.size : Int) - (i + 1)).toNat = k := ⟨((s.size : Int) - i).toNat - 1, by omega, by omega⟩
theorem quoA_end (h : i < (s.size : Int)) (hq : isQ s c L i = true) : quoA s c L raw bytes i = some (i + L) := by
  obtain ⟨k, hk, _⟩ := quoA_fuel h
  unfold quoA
  rw [hk]
  simp only [quoted]
  rw [if_neg (by omega), if_pos hq]
theorem quoA_bad (h : i < (s.size : Int)) (hq : isQ s c L i = false) (h92 : bt s i = 92) (he : esc s raw bytes i = none) : quoA s c L raw bytes i = none := by
  obtain ⟨k, hk, _⟩ := quoA_fuel h
  unfold quoA
  rw [hk]
  simp only [quoted]
  rw [if_neg (by omega), if_neg (by rw [hq]; decide), if_pos (by rw [h92]; rfl), he]
theorem quoA_esc {e : Int} (h0 : 0 ≤ i) (h : i < (s.size : Int)) (hq : isQ s c L i = false) (h92 : bt s i = 92) (he : esc s raw bytes i = some e) : quoA s c L raw bytes i = quoA s c L raw bytes e := by
  obtain ⟨k, hk, _⟩ := quoA_fuel h
  have hr := esc_in s raw bytes i e h0 he
  unfold quoA
  rw [hk]
  simp only [quoted]
  rw [if_neg (by omega), if_neg (by rw [hq]; decide), if_pos (by rw [h92]; rfl), he]
  exact quoted_more s c L raw bytes k e (by omega) (by omega) _ (Nat.le_refl _)
theorem quoA_feed (h : i < (s.size : Int)) (hq : isQ s c L i = false) (h10 : bt s i = 10) (hL : L = 1) : quoA s c L raw bytes i = none := by
  obtain ⟨k, hk, _⟩ := quoA_fuel h
  unfold quoA
  rw [hk]
  simp only [quoted]
  rw [if_neg (by omega), if_neg (by rw [hq]; decide), if_neg (by rw [h10]; decide), if_pos (by rw [h10, hL]; rfl)]
theorem quoA_next (h : i < (s.size : Int)) (hq : isQ s c L i = false) (h92 : bt s i ≠ 92) (h10 : bt s i ≠ 10 ∨ L ≠ 1) : quoA s c L raw bytes i = quoA s c L raw bytes (i + 1) := by
  obtain ⟨k, hk, hk2⟩ := quoA_fuel h
  unfold quoA
  rw [hk, hk2]
  simp only [quoted]
  rw [if_neg (by omega), if_neg (by rw [hq]; decide), if_neg (by simpa using h92), if_neg (by simp only [Bool.and_eq_true, beq_iff_eq, not_and]; intro h1 h2; rcases h10 with h | h; exact h h1; exact h h2)]
end
theorem lit_quoA (s : ByteArray) (raw bytes : Bool) (p : Int) (h0 : 0 ≤ p) : lit s raw bytes p = quoA s (bt s p) (markLen s (bt s p) p) raw bytes (p + markLen s (bt s p) p) := by
  unfold lit quoA
  have hL := markLen_is s (bt s p) p
  exact quoted_more s _ _ raw bytes _ _ (by omega) (by omega) _ (Nat.le_refl _)

/-! ### digits -/
theorem hexNum_B (s : ByteArray) : ∀ (k : Nat) (i n : Int), hexNum s k i n = numB 16 s k i n := by
  intro k
  induction k with
  | zero => intro i n; rfl
  | succ k ih => intro i n; simp only [hexNum, numB, ih]
theorem numB_shift (m : Int) (s t : ByteArray) (a : Int) : ∀ (k : Nat) (i n : Int), (∀ j : Int, i ≤ j → j < i + k → bt t j = bt s (a + j)) → numB m t k i n = numB m s k (a + i) n := by
  intro k
  induction k with
  | zero => intro i n _; rfl
  | succ k ih =>
    intro i n h
    simp only [numB]
    rw [h i (Int.le_refl _) (by push_cast; omega), ih (i + 1) _ (fun j h1 h2 => h j (by omega) (by push_cast; omega)), show a + (i + 1) = a + i + 1 by omega]
theorem numB_lt (m : Int) (s : ByteArray) (hm : 1 ≤ m) : ∀ (k : Nat) (i n : Int), 0 ≤ n → (∀ j : Int, i ≤ j → j < i + k → 0 ≤ hexVal (bt s j) ∧ hexVal (bt s j) < m) → 0 ≤ numB m s k i n ∧ numB m s k i n < (n + 1) * m ^ k := by
  intro k
  induction k with
  | zero => intro i n h0 _; simp only [numB, Int.pow_zero]; omega
  | succ k ih =>
    intro i n h0 h
    have h1 := h i (Int.le_refl _) (by push_cast; omega)
    have h3 : 0 ≤ m * n := Int.mul_nonneg (by omega) h0
    have h2 := ih (i + 1) (m * n + hexVal (bt s i)) (by omega) (fun j a b => h j (by omega) (by push_cast; omega))
    simp only [numB]
    refine ⟨h2.1, Int.lt_of_lt_of_le h2.2 ?_⟩
    have e1 : (n + 1) * m ^ (k + 1) = (m * n + m) * m ^ k := by rw [Int.pow_succ, Int.mul_comm (m ^ k) m, ← Int.mul_assoc]; congr 1; rw [Int.add_mul, Int.one_mul, Int.mul_comm]
    rw [e1]
    exact Int.mul_le_mul_of_nonneg_right (by omega) (Int.pow_nonneg (by omega))
theorem hexes_at (s : ByteArray) : ∀ (k : Nat) (i : Int), hexes s k i = true → ∀ j : Int, i ≤ j → j < i + k → isHex (bt s j) = true := by
  intro k
  induction k with
  | zero => intro i _ j h1 h2; omega
  | succ k ih =>
    intro i h j h1 h2
    simp only [hexes, Bool.and_eq_true] at h
    by_cases hj : j = i
    · rw [hj]; exact h.1
    · exact ih (i + 1) h.2 j (by omega) (by push_cast at h2; omega)
/-- A cut of digits: its size, its digits, its number. -/
theorem cut_digits (s : ByteArray) (m : Int) (a : Int) (k : Nat) (h0 : 0 ≤ a) (h1 : a + k ≤ (s.size : Int)) (h : ∀ j : Int, a ≤ j → j < a + k → isHex (bt s j) = true ∧ hexVal (bt s j) < m) :
    (s.extract a.toNat (a + k).toNat).size = k ∧ (∀ j : Int, 0 ≤ j → j < ((s.extract a.toNat (a + k).toNat).size : Int) → isHex (bt (s.extract a.toNat (a + k).toNat) j) = true ∧ hexVal (bt (s.extract a.toNat (a + k).toNat) j) < m) ∧
      numB m (s.extract a.toNat (a + k).toNat) (s.extract a.toNat (a + k).toNat).size 0 0 = numB m s k a 0 := by
  have hsz := size_extract s a (a + k) h0 (by omega) h1
  have hk : (s.extract a.toNat (a + k).toNat).size = k := by omega
  refine ⟨hk, fun j h2 h3 => ?_, ?_⟩
  · rw [bt_extract s a (a + k) j h0 h2 (by omega) h1]
    exact h (a + j) (by omega) (by omega)
  · rw [hk]
    have := numB_shift m s (s.extract a.toNat (a + k).toNat) a k 0 0 (fun j h2 h3 => bt_extract s a (a + k) j h0 h2 (by omega) h1)
    rw [this, Int.add_zero]
end Go.Proofs.YtjepdlmcombmcaaGreatDoor.Lx
