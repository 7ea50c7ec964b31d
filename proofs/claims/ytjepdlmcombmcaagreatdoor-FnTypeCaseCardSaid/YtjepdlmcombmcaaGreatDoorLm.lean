/- Bytes of the call's own: a slice over a row of bytes (a conversion's row with its mark, too) is read, written, appended to, made a string. Plain laws. -/
import Derived.Test.YtjepdlmcombmcaaGreatDoorLc
namespace Go.Proofs.YtjepdlmcombmcaaGreatDoor.Lx
open Go.RowKit Go.Proofs.YtjepdlmcombmcaaGreatDoorW.PrintWords

/-- The slice v holds just the numbers xs, at the head of a row of bytes from block base on, of which no cell is frozen. -/
def OwnB (w : World) (base : Nat) (v : Value) (xs : List Int) : Prop :=
  ∃ g cap cur fr, v = .slice (some ⟨g, 0, none⟩) xs.length cap ∧ base ≤ g ∧ w.heap[g]? = some (.cells cur 5 fr) ∧ (fr = (0, 0) ∨ cur.size ≤ fr.1) ∧ xs.length ≤ cap ∧ cap ≤ maxLen ∧ cur.size = cap ∧ cur.toList.take xs.length = nums .u8 xs

theorem take_get {cur : Array Value} {xs : List Int} (h : cur.toList.take xs.length = nums .u8 xs) (j : Nat) (hj : j < xs.length) : cur[j]? = some (.int .u8 (xs.getD j 0)) := by
  have h1 : (cur.toList.take xs.length)[j]? = (nums .u8 xs)[j]? := by rw [h]
  rw [List.getElem?_take_of_lt hj] at h1
  rw [← Array.getElem?_toList, h1]
  simp [nums, hj, List.getD_eq_getElem?_getD]
section
variable {w : World} {base : Nat} {v : Value} {xs : List Int}
theorem OwnB.length_le (h : OwnB w base v xs) : xs.length ≤ 9223372036854775807 := by
  obtain ⟨g, cap, cur, fr, _, _, _, _, h1, h2, _, _⟩ := h
  simp only [maxLen] at h2
  omega
theorem OwnB.kept (h : OwnB w base v xs) {w1 : World} {row : Option Nat} (hg : w.grownBy w1 row) (hne : v.ownBlock = none ∨ v.ownBlock ≠ row) : OwnB w1 base v xs := by
  obtain ⟨g, cap, cur, fr, rfl, hb, hh, rest⟩ := h
  refine ⟨g, cap, cur, fr, rfl, hb, (hg.block g (blk_lt hh) ?_).trans hh, rest⟩
  rcases hne with hne | hne
  · simp [Value.ownBlock] at hne
  · simpa [Value.ownBlock] using hne
theorem OwnB.below (h : OwnB w base v xs) {w1 : World} (hb : Below w.heap.size w w1) : OwnB w1 base v xs :=
  h.kept (grown_of_below hb none) (by obtain ⟨g, cap, cur, fr, rfl, _⟩ := h; exact .inr (by simp [Value.ownBlock]))
theorem OwnB.base_le (h : OwnB w base v xs) {B : Nat} (hB : B ≤ base) : OwnB w B v xs := by
  obtain ⟨g, cap, cur, fr, hv, hb, rest⟩ := h
  exact ⟨g, cap, cur, fr, hv, Nat.le_trans hB hb, rest⟩
theorem OwnB.shape (h : OwnB w base v xs) : ∃ g n cap, v = .slice (some ⟨g, 0, none⟩) n cap := by
  obtain ⟨g, cap, cur, fr, hv, _⟩ := h
  exact ⟨g, _, cap, hv⟩
theorem OwnB.own_base (h : OwnB w base v xs) : ∀ k, v.ownBlock = some k → base ≤ k := by
  obtain ⟨g, cap, cur, fr, rfl, hb, _⟩ := h
  intro k hk
  have : g = k := by simpa [Value.ownBlock] using hk
  omega
theorem OwnB.alloc (h : OwnB w base v xs) (o : Obj) : OwnB (w.alloc o) base v xs := h.below (below_alloc (Below.refl _ _) o)
theorem OwnB.drewN (h : OwnB w base v xs) (n : Nat) : OwnB (w.drewN n) base v xs := h
/-- What the slice looks like, and its cells. -/
theorem OwnB.form (h : OwnB w base v xs) : ∃ g cap, v = .slice (some ⟨g, 0, none⟩) xs.length cap ∧ base ≤ g ∧ g < w.heap.size ∧ xs.length ≤ cap ∧ cap ≤ 9223372036854775807 ∧ (∀ j, j < xs.length → w.cell? ⟨g, j, none⟩ = some (.int .u8 (xs.getD j 0)) ∧ w.frozen? ⟨g, j, none⟩ = false) ∧
    ∀ j y, j < xs.length → OwnB (w.setCell ⟨g, j, none⟩ (.int .u8 y)) base v (xs.set j y) := by
  obtain ⟨g, cap, cur, fr, rfl, hb, hh, hfr, h1, h2, h3, h4⟩ := h
  refine ⟨g, cap, rfl, hb, blk_lt hh, h1, by simp only [maxLen] at h2; omega, fun j hj => ⟨?_, ?_⟩, fun j y hj => ?_⟩
  · rw [cell_of_row w g j cur 5 fr hh]
    exact take_get h4 j hj
  · simp only [World.frozen?, hh]
    obtain ⟨lo, hi⟩ := fr
    rcases hfr with hfr | hfr
    · simp only [Prod.mk.injEq] at hfr
      obtain ⟨rfl, rfl⟩ := hfr
      simp
    · simp only at hfr
      simp
      omega
  · refine ⟨g, cap, cur.setIfInBounds j (.int .u8 y), fr, by simp, hb, ?_, by simpa using hfr, by simpa using h1, h2, by simpa using h3, ?_⟩
    · simp only [World.setCell, Array.getElem?_modify, hh]
      simp
    · rw [Array.toList_setIfInBounds, List.length_set, List.take_set, h4]
      simp [nums]
theorem OwnB.to_string (h : OwnB w base v xs) (P : Program) (src dst : TypeId) (hs : P.underlying src = some (.slice 5)) (he : P.underlying 5 = some (.int .u8)) (hd : P.underlying dst = some .string) : (convert src dst v).run P w = .ok (.string (strOfNums xs)) w := by
  obtain ⟨g, cap, rfl, _, _, _, _, hc, _⟩ := h.form
  exact run_convert_bytes_arg w src 5 hs he g 0 xs.length cap xs rfl (fun i hi => by rw [Nat.zero_add]; exact (hc i hi).1) dst hd
end
theorem own_conv (w : World) (s : ByteArray) (hs : s.size ≤ 9223372036854775807) : OwnB (Lib.bytesWorld w 5 s) w.heap.size (.slice (some ⟨w.heap.size, 0, none⟩) s.size (grownCap w s.size 0 5)) (s.data.toList.map fun b => (b.toNat : Int)) := by
  have hz : (Lib.bytesCells w 5 s).size = grownCap w s.size 0 5 := by
    have := grownCap_ge w s.size 0 5
    have h2 : s.data.size = s.size := rfl
    simp only [Lib.bytesCells, Array.size_append, Array.size_map, Array.size_replicate]
    omega
  have hl : (s.data.toList.map fun b => (b.toNat : Int)).length = s.size := List.length_map _
  refine ⟨w.heap.size, _, _, _, by rw [hl], Nat.le_refl _, Lib.bytesWorld_at_new w 5 s, .inr (Nat.le_refl _), by rw [hl]; exact grownCap_ge w s.size 0 5, grownCap_le_maxLen w s.size 0 5 (by unfold maxLen; omega), hz, ?_⟩
  rw [hl]
  simp only [Lib.bytesCells, Array.toList_append, Array.toList_map, nums, List.map_map]
  rw [List.take_left' (by rw [List.length_map]; rfl)]
  rfl
theorem below_conv (w : World) (s : ByteArray) : Below w.heap.size w (Lib.bytesWorld w 5 s) :=
  ⟨rfl, rfl, rfl, by rw [Lib.bytesWorld_size]; omega, fun k hk => Lib.bytesWorld_at_old w 5 s k hk⟩
section
variable {P : Program} {ops : Array Oper} {rest : List Oper} {o : Oper} {a : Act} {Q : Exit → Act → World → Prop}
/-- append(v, y), v bytes of the call's own. -/
theorem append_ownB {W : World} (base : Nat) (hgd : o.guard = none) (s x : Operand) (t : TypeId)
    (ho : o.op = .call { callee := .builtin .append, args := #[s, x], argTypes := #[t, t] })
    (ht : P.underlying t = some (.slice 5)) (hinfo : (P.info? 5).map (fun i => (i.zero, i.size, i.bytes)) = some (some (.int .u8 0), 1, 1))
    (v : Value) (xs : List Int) (y : Int) (hs : a.eval s = v) (hx : a.eval x = .slice (some ⟨W.heap.size, 0, none⟩) 1 1)
    (HO : OwnB W base v xs) (hbase : base ≤ W.heap.size) (hl : xs.length + 1 ≤ 140737488355328)
    (h : ∀ v1 w1, OwnB w1 base v1 (xs ++ [y]) → W.grownBy w1 v.ownBlock → wpList P ops Q rest (a.put o.dst v1) w1) :
    wpList P ops Q (o :: rest) a (W.alloc (.cells #[.int .u8 y] 5)) := by
  obtain ⟨i0, hi, hzz⟩ := Option.map_eq_some_iff.1 hinfo
  simp only [Prod.mk.injEq] at hzz
  obtain ⟨hz0, hz1, hz2⟩ := hzz
  have HO' := HO.alloc (.cells #[.int .u8 y] 5)
  obtain ⟨g, cap, cur, fr, hv, hb, hh, hfr, h1, h2, h3, h4⟩ := HO'
  have hlen : (nums .u8 xs).length = xs.length := nums_length _ _
  have hgW : g < W.heap.size := by
    obtain ⟨g', cap', cur', fr', hv', _, hh', _⟩ := HO
    rw [hv] at hv'
    injection hv' with e1
    injection e1 with e1
    injection e1 with e1
    rw [e1]
    exact blk_lt hh'
  refine wpList_append_arg (W.alloc (.cells #[.int .u8 y] 5)) hgd s x t ho 5 i0 (.int .u8 0) 1 1 ht hi hz0 hz1 hz2 rfl (by decide) g 0 xs.length cap (nums .u8 xs) (hs.trans hv) (by rw [hlen]; omega) ?_ ⟨W.heap.size, 0, none⟩ 1 1 [.int .u8 y] hx rfl
    (World.news_of_block (cs := #[.int .u8 y]) (t := 5) (fr := (0, 0)) (heap_alloc_new W _)) (by simp [Value.oneCell']) ?_ (by simp only [maxLen]; omega) (by omega) ?_ ?_
  · intro j u hu
    have hj : j < xs.length := by rw [← hlen]; exact (List.getElem?_eq_some_iff.1 hu).1
    rw [Nat.zero_add, cell_of_row _ g j cur 5 fr hh, take_get h4 j hj]
    rw [← hu]
    simp [nums, hj, List.getD_eq_getElem?_getD]
  · intro hroom j hj
    have hj0 : j = 0 := by simpa using hj
    subst hj0
    constructor
    · rw [cell_of_row _ g _ cur 5 fr hh, Array.getElem?_eq_getElem (by omega)]
      rfl
    · simp only [World.frozen?, hh]
      obtain ⟨lo, hi2⟩ := fr
      rcases hfr with hfr | hfr
      · simp only [Prod.mk.injEq] at hfr
        obtain ⟨rfl, rfl⟩ := hfr
        simp
      · simp only at hfr
        simp
        omega
  · intro hroom
    refine h _ _ ⟨g, cap, cur.setIfInBounds xs.length (.int .u8 y), fr, by simp, hb, ?_, by simpa using hfr, by simpa using hroom, h2, by simpa using h3, ?_⟩ ?_
    · simp only [World.setCells, Nat.zero_add, Nat.mul_one, World.setCell, Array.getElem?_modify, hh]
      simp
    · rw [Array.toList_setIfInBounds, List.length_append, List.length_singleton]
      have e1 : nums .u8 (xs ++ [y]) = nums .u8 xs ++ [.int .u8 y] := by simp [nums]
      have hct : cur.toList.length = cur.size := Array.length_toList
      have hcl : xs.length < cur.toList.length := by omega
      rw [e1, ← h4, List.take_succ_eq_append_getElem (by simpa using hcl), List.take_set_of_le (Nat.le_refl _)]
      simp
    · refine ⟨rfl, rfl, rfl, by simp [World.setCells, World.setCell], fun k hk hne => ?_⟩
      have hkg : k ≠ g := by
        rw [hv] at hne
        simpa [Value.ownBlock, Ne, eq_comm] using hne
      simp only [World.setCells, Nat.zero_add, Nat.mul_one]
      rw [Below.heap_setCell _ _ _ _ hkg]
      exact Below.heap_alloc _ _ _ hk
  · intro _ v1 w1 hown hg
    have hl1 : (xs ++ [y]).length = xs.length + 1 := by simp
    refine h v1 w1 ?_ ⟨hg.os, hg.tape, hg.output, Nat.le_trans (by simp) hg.size, fun k hk _ => (hg.block k (by simp; omega) (by simp)).trans (Below.heap_alloc _ _ _ hk)⟩
    rcases hown.2 with ⟨_, h0⟩ | ⟨g', cap', cur', hv', hb', hh', r1, r2, r3, r4⟩
    · omega
    · refine ⟨g', cap', cur', (0, 0), by rw [hl1]; exact hv', Nat.le_trans hbase (Nat.le_trans (by simp) hb'), hh', .inl rfl, by rw [hl1]; exact r1, r2, by simpa using r3, ?_⟩
      rw [hl1]
      simpa [nums] using r4
end
end Go.Proofs.YtjepdlmcombmcaaGreatDoor.Lx
