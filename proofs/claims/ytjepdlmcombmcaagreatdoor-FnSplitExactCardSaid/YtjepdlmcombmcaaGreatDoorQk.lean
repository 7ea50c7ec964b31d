/- The statements as plain rows; impl.Split: what it returns. Conditions: the text is such as is told; the table of powers lies. -/
import Derived.Test.YtjepdlmcombmcaaGreatDoorQj
namespace Go.Proofs.YtjepdlmcombmcaaGreatDoor.Lx
open Go.RowKit Go.Proofs.YtjepdlmcombmcaaGreatDoorW.PrintWords

theorem info29 : (Tryz.prog.info? 29).map (fun i => (i.zero, i.size, i.bytes)) = some (some (.agg #[.int .i64 0, .int .i64 0, .string ⟨#[]⟩]), 3, 32) := by kernel_rfl
def stmCells (q : Int × Int × ByteArray) : List Value := [.int .i64 q.1, .int .i64 q.2.1, .string q.2.2]
theorem stmCells_length (l : List (Int × Int × ByteArray)) : (l.flatMap stmCells).length = l.length * 3 := by
  induction l with
  | nil => rfl
  | cons q l ih =>
    simp only [List.flatMap_cons, List.length_append, ih, List.length_cons, stmCells, List.length_nil]
    omega
theorem stmCells_get : ∀ (l : List (Int × Int × ByteArray)) (i : Nat) (q : Int × Int × ByteArray), l[i]? = some q → (l.flatMap stmCells)[i * 3]? = some (.int .i64 q.1) ∧ (l.flatMap stmCells)[i * 3 + 1]? = some (.int .i64 q.2.1) ∧ (l.flatMap stmCells)[i * 3 + 2]? = some (.string q.2.2) := by
  intro l
  induction l with
  | nil => intro i q h; simp at h
  | cons p l ih =>
    intro i q h
    have hl : (stmCells p).length = 3 := rfl
    cases i with
    | zero =>
      have e : p = q := by simpa using h
      subst e
      exact ⟨rfl, rfl, rfl⟩
    | succ i =>
      have h2 := ih i q (by simpa using h)
      simp only [List.flatMap_cons]
      rw [List.getElem?_append_right (by omega), List.getElem?_append_right (by omega), List.getElem?_append_right (by omega), hl, show (i + 1) * 3 - 3 = i * 3 by omega, show (i + 1) * 3 + 1 - 3 = i * 3 + 1 by omega, show (i + 1) * 3 + 2 - 3 = i * 3 + 2 by omega]
      exact h2
theorem take_succ_of {l : List (Int × Int × ByteArray)} {i : Nat} {q : Int × Int × ByteArray} (h : l[i]? = some q) : l.take (i + 1) = l.take i ++ [q] := by
  rw [List.take_add_one, h]
  rfl
/-- The slice v holds just the statements l. -/
def ORow (w : World) (base : Nat) (v : Value) (l : List (Int × Int × ByteArray)) : Prop := w.ownsRow base 29 3 v l.length (l.flatMap stmCells)
theorem ORow.nil (w : World) (base : Nat) : ORow w base (.slice none 0 0) [] := ⟨rfl, .inl ⟨rfl, rfl⟩⟩
section
variable {w w1 : World} {base : Nat} {v : Value} {l : List (Int × Int × ByteArray)}
theorem ORow.shape (h : ORow w base v l) : ∃ A C, v = .slice A l.length C := by
  obtain ⟨_, ⟨rfl, h0⟩ | ⟨g, cap, cur, rfl, _⟩⟩ := h
  · exact ⟨none, 0, by rw [h0]⟩
  · exact ⟨_, _, rfl⟩
theorem ORow.own (h : ORow w base v l) : ∀ k, v.ownBlock = some k → base ≤ k := fun k hk => own_base h k hk
theorem ORow.below (h : ORow w base v l) (hb : Below w.heap.size w w1) : ORow w1 base v l := by
  obtain ⟨h1, h2⟩ := h
  refine ⟨h1, ?_⟩
  rcases h2 with h2 | ⟨g, cap, cur, hv, hb', hh, rest⟩
  · exact .inl h2
  · exact .inr ⟨g, cap, cur, hv, hb', (hb.block g (blk_lt hh)).trans hh, rest⟩
/-- The cells of statement number i. -/
theorem ORow.get (h : ORow w base v l) {i : Nat} {q : Int × Int × ByteArray} (hq : l[i]? = some q) : ∃ G C, v = .slice (some ⟨G, 0, none⟩) l.length C ∧ w.cell? ⟨G, i * 3, none⟩ = some (.int .i64 q.1) ∧ w.cell? ⟨G, i * 3 + 1, none⟩ = some (.int .i64 q.2.1) ∧ w.cell? ⟨G, i * 3 + 2, none⟩ = some (.string q.2.2) := by
  obtain ⟨h1, ⟨_, h0⟩ | ⟨g, cap, cur, hv, _, hh, _, _, _, ht⟩⟩ := h
  · rw [List.length_eq_zero_iff.1 h0] at hq
    simp at hq
  · have hi := (List.getElem?_eq_some_iff.1 hq).1
    obtain ⟨g0, g1, g2⟩ := stmCells_get l i q hq
    rw [← ht] at g0 g1 g2
    refine ⟨g, cap, hv, ?_, ?_, ?_⟩
    · rw [cell_of_row w g _ cur 29 (0, 0) hh, ← Array.getElem?_toList, ← g0, List.getElem?_take_of_lt (by omega)]
    · rw [cell_of_row w g _ cur 29 (0, 0) hh, ← Array.getElem?_toList, ← g1, List.getElem?_take_of_lt (by omega)]
    · rw [cell_of_row w g _ cur 29 (0, 0) hh, ← Array.getElem?_toList, ← g2, List.getElem?_take_of_lt (by omega)]
theorem PRow.get (h : PRow w base v l) {i : Nat} (hi : i < l.length) : ∃ G C g q, v = .slice (some ⟨G, 0, none⟩) l.length C ∧ l[i]? = some q ∧ w.cell? ⟨G, i, none⟩ = some (.pointer (some ⟨g, 0, none⟩)) ∧ w.heap[g]? = some (.cells #[.int .i64 q.1, .int .i64 q.2.1, .string q.2.2] 73 (0, 0)) := by
  obtain ⟨gs, h1, ⟨_, ⟨_, h0⟩ | ⟨g, cap, cur, hv, _, hh, _, _, _, ht⟩⟩, h4⟩ := h
  · omega
  · have hg : gs[i]? = some (gs[i]'(by omega)) := List.getElem?_eq_getElem (by omega)
    have hq : l[i]? = some (l[i]'hi) := List.getElem?_eq_getElem hi
    obtain ⟨_, _, h5⟩ := h4 i _ _ hg hq
    refine ⟨g, cap, _, _, hv, hq, ?_, h5⟩
    have h6 : (cur.toList.take (l.length * 1))[i]? = some (.pointer (some ⟨gs[i]'(by omega), 0, none⟩)) := by rw [ht, List.getElem?_map, hg]; rfl
    rw [cell_of_row w g i cur 71 (0, 0) hh, ← Array.getElem?_toList, ← h6, List.getElem?_take_of_lt (by omega)]
end
/-- append of a statement onto a plain row, as a step of a region that draws. -/
theorem step_append_out {ops : Array Oper} {o : Oper} {a : Act} {K : Act → World → Prop} {Q : Exit → Act → World → Prop} {E : Prop} {W : World} (base : Nat) (hgd : o.guard = none) (s x : Operand)
    (ho : o.op = .call { callee := .builtin .append, args := #[s, x], argTypes := #[25, 25] })
    (v : Value) (l : List (Int × Int × ByteArray)) (n : Nat) (hn : l.length = n) (p e : Int) (st : ByteArray) (hs : a.eval s = v) (hx : a.eval x = .slice (some ⟨W.heap.size, 0, none⟩) 1 1)
    (HO : ORow W base v l) (hbase : base ≤ W.heap.size) (hb : n ≤ 100000)
    (h : ∀ g cap w1, ORow w1 base (.slice (some ⟨g, 0, none⟩) (n + 1) cap) (l ++ [(p, e, st)]) → W.grownBy w1 v.ownBlock → K (a.put o.dst (.slice (some ⟨g, 0, none⟩) (n + 1) cap)) w1) :
    if Region.wanted o (yielded ops a.tmps) = true then Oper.wp Tryz.prog o a (W.alloc (.cells #[.int .i64 p, .int .i64 e, .string st] 29)).drew K Q else E := by
  subst hn
  obtain ⟨i0, hi, hzz⟩ := Option.map_eq_some_iff.1 info29
  simp only [Prod.mk.injEq] at hzz
  obtain ⟨hz0, hz1, hz2⟩ := hzz
  have hW1 : (W.alloc (.cells #[.int .i64 p, .int .i64 e, .string st] 29)).drew.heap.size = W.heap.size + 1 := by
    show (W.alloc _).heap.size = _
    simp
  refine step_append_lies (W.alloc (.cells #[.int .i64 p, .int .i64 e, .string st] 29)).drew hgd s x 25 ho base 29 i0 _ 3 32 Tryz.underlying25 hi hz0 hz1 hz2 rfl (by omega) v l.length (l.flatMap stmCells) hs (HO.alloc _) ⟨W.heap.size, 0, none⟩ 1 1 [.int .i64 p, .int .i64 e, .string st] hx rfl
    (World.news_of_block (cs := #[.int .i64 p, .int .i64 e, .string st]) (t := 29) (fr := (0, 0)) (heap_alloc_new W _)) ?_ (by omega) (by simp only [maxLen]; omega) (by omega) (by rw [hW1]; omega) _ rfl ?_
  · intro u hu
    simp only [List.mem_cons, List.not_mem_nil, or_false] at hu
    rcases hu with rfl | rfl | rfl <;> rfl
  · intro g cap w1 hown hg _ _
    refine h g cap w1 ?_ (World.grownBy.trans (World.grownBy_alloc W _ _) ⟨hg.os, hg.tape, hg.output, hg.size, hg.block⟩)
    unfold ORow
    rw [List.length_append, List.flatMap_append]
    exact hown
/-- What a function that splits returns. -/
def RawsE (R : Option (List (Int × Int × ByteArray))) (w : World) (e : Ending) (w' : World) : Prop := match R with
  | none => e = .returned (.tuple #[.slice none 0 0, .bool false]) ∧ Below w.heap.size w w'
  | some l => ∃ v B, e = .returned (.tuple #[v, .bool true]) ∧ Below w.heap.size w w' ∧ w.heap.size ≤ B ∧ ORow w' B v l
/-- What the program makes of a text. -/
def implS (s : ByteArray) : Option (List (Int × Int × ByteArray)) := match joinS s [] (isplit s (s.size + 2) false 0 0 0 .other false) with
  | none => none
  | some l => some (fixS l)
theorem isplit_len (s : ByteArray) : ∀ (n : Nat) (semi : Bool) (cp first p : Int) (last : Kd) (dot : Bool) (m : List (Int × Int)), isplit s n semi cp first p last dot = some m → m.length ≤ n := by
  intro n
  induction n with
  | zero => intro semi cp first p last dot m h; cases h
  | succ n ih =>
    intro semi cp first p last dot m h
    simp only [isplit] at h
    split at h
    · cases h
    · split at h
      · split at h
        · cases h
        · rename_i l hl
          injection h with h
          rw [← h]
          have := ih _ _ _ _ _ _ _ hl
          simp
          omega
      · split at h
        · injection h with h
          rw [← h]
          split <;> simp
        · have := ih _ _ _ _ _ _ _ h
          omega
theorem implS_len (s : ByteArray) (hs : s.size ≤ 5000) : ∀ l, joinS s [] (isplit s (s.size + 2) false 0 0 0 .other false) = some l → (fixS l).length ≤ 10000 := by
  intro l h
  unfold joinS at h
  split at h
  · cases h
  · rename_i m hm
    injection h with h
    have := isplit_len s _ _ _ _ _ _ _ _ hm
    unfold fixS
    split
    · simp
    · rw [← h]
      simp
      omega
set_option maxRecDepth 100000 in
set_option maxHeartbeats 4000000 in
theorem implSplit_c (w : World) (s : ByteArray) (hT : Txt s) (hPow : Pow10 w) :
    Calls Tryz.prog 16 #[.string s] w (RawsE (implS s) w) := by
  have hlen := implS_len s (by have := hT.size; omega)
  cases hR : joinS s [] (isplit s (s.size + 2) false 0 0 0 .other false) with
  | none =>
    have HR := Aside0.mk hR
    have hRn : Aside0 (implS s = none) := ⟨by unfold implS; rw [hR]⟩
    clear hR hlen
    go_enter Tryz.func16, Tryz.ntmps16
    go_wp2_with (first | (go_at_call 26; (with_reducible refine (splitRaw_c _ _ s hT hPow).mono ?_); rintro e w1 hn; rw [HR.out] at hn; obtain ⟨⟨g, rfl⟩, hB1⟩ := hn))
    (try simp only [Exit.inBlock, Exit.then]); refine bodyPost_ret (results_tmp2 rfl _ _ _) rfl ?_
    rw [hRn.out]
    exact ⟨rfl, hB1⟩
  | some l0 =>
    have HR := Aside0.mk hR
    obtain ⟨l, hl⟩ : ∃ l, fixS l0 = l := ⟨_, rfl⟩
    have hll := hlen l0 hR
    rw [hl] at hll
    have hRn : Aside0 (implS s = some l) := ⟨by unfold implS; rw [hR]; show some (fixS l0) = _; rw [hl]⟩
    have HL := Aside0.mk hl
    clear hR hlen hl
    go_enter Tryz.func16, Tryz.ntmps16
    go_wp2_with (first | (go_at_call 26; (with_reducible refine (splitRaw_c _ _ s hT hPow).mono ?_); rintro e w1 hn; rw [HR.out] at hn; obtain ⟨pv, B, rfl, hB1, hBB, hPR⟩ := hn; rw [HL.out] at hPR; obtain ⟨PA, PC, hpv⟩ := hPR.shape; obtain rfl := hpv))
    go_loopg [6, 18] (l.length + 1) (fun kq v6 v18 wr => ∃ (i : Nat) (v : Value), v18 = .int .i64 (i : Int) ∧ v6 = v ∧ Aside0 (i ≤ l.length ∧ l.length - i < kq) ∧ Aside0 (ORow wr w1.heap.size v (l.take i)) ∧ Aside0 (Below w1.heap.size w1 wr))
    case atStart => exact ⟨0, _, rfl, rfl, ⟨by omega, by omega⟩, ⟨ORow.nil _ _⟩, ⟨Below.refl _ _⟩⟩
    case round =>
      obtain ⟨i, v, rfl, rfl, HA, HOr, HBr⟩ := hrel
      have hBr1 := HBr.out
      by_cases hi : i < l.length
      · have hd : decide ((i : Int) < (l.length : Int)) = true := decide_eq_true (by omega)
        have hw := iwrap ((i : Int) + 1) (by omega) (by omega)
        have hti : (l.take i).length = i := by rw [List.length_take]; omega
        obtain ⟨A, C, hv⟩ := HOr.out.shape
        rw [hti] at hv
        obtain rfl := hv
        obtain ⟨G, C1, gq, q, hpv, hq0, hq2, hq1⟩ := hPR.get hi
        injection hpv with e1 e2 e3
        subst e1 e3
        have hq4 : wr.cell? ⟨G, i, none⟩ = some (.pointer (some ⟨gq, 0, none⟩)) := ((hBr1.cell (World.block_lt_of_cell? _ _ hq2)).trans hq2)
        have hqr : wr.heap[gq]? = some (.cells #[.int .i64 q.1, .int .i64 q.2.1, .string q.2.2] 73 (0, 0)) := (hBr1.block gq (blk_lt hq1)).trans hq1
        have c0 : (0 : Int) ≤ (i : Int) := by omega
        have c1 : (i : Int) < (l.length : Int) := by omega
        go_wp2
        refine wp_region_noPanic ?_
        refine wp_region_held_drew (S := fun W => W.cell? ⟨gq, 0, none⟩ = some (.int .i64 q.1) ∧ W.cell? ⟨gq, 1, none⟩ = some (.int .i64 q.2.1) ∧ W.cell? ⟨gq, 2, none⟩ = some (.string q.2.2)) (by kernel_rfl) ⟨(blk_cell hqr 0).trans rfl, (blk_cell hqr 1).trans rfl, (blk_cell hqr 2).trans rfl⟩ (fun hHeld => ?_)
        refine wpAnyH_take (i := 0) (oi := ?oi1) (v := ?v1) ?hi1 (by kernel_rfl) (by kernel_rfl) (by kernel_rfl) (fun _ _ _ h => h) ?hy1 hHeld ?re1
        case hi1 => (simp only [List.getElem?_toArray, List.getElem?_cons_zero]; rfl)
        case hy1 =>
          refine Or.inl ⟨by rfl, ?_⟩
          intro wq hSw
          go_split_ands
          go_simp
          try with_reducible rfl
        (try simp only [Act.put, List.setIfInBounds_toArray, List.set_cons_zero, List.set_cons_succ])
        refine wpAnyH_take (i := 1) (oi := ?oi2) (v := ?v2) ?hi2 (by kernel_rfl) (by kernel_rfl) (by kernel_rfl) (fun _ _ _ h => h) ?hy2 hHeld ?re2
        case hi2 => (simp only [List.getElem?_toArray, List.getElem?_cons_succ, List.getElem?_cons_zero]; rfl)
        case hy2 =>
          refine Or.inl ⟨by rfl, ?_⟩
          intro wq hSw
          go_split_ands
          go_simp
          try with_reducible rfl
        (try simp only [Act.put, List.setIfInBounds_toArray, List.set_cons_zero, List.set_cons_succ])
        refine wpAnyH_take (i := 2) (oi := ?oi3) (v := ?v3) ?hi3 (by kernel_rfl) (by kernel_rfl) (by kernel_rfl) (fun _ _ _ h => h) ?hy3 hHeld ?re3
        case hi3 => (simp only [List.getElem?_toArray, List.getElem?_cons_succ, List.getElem?_cons_zero]; rfl)
        case hy3 =>
          refine Or.inl ⟨by rfl, ?_⟩
          intro wq hSw
          go_split_ands
          go_simp
          try with_reducible rfl
        (try simp only [Act.put, List.setIfInBounds_toArray, List.set_cons_zero, List.set_cons_succ])
        refine wpAnyH_take (i := 3) (oi := ?oi4) (v := ?v4) ?hi4 (by kernel_rfl) (by kernel_rfl) (by kernel_rfl) (fun _ _ _ h => h) ?hy4 hHeld ?re4
        case hi4 => (simp only [List.getElem?_toArray, List.getElem?_cons_succ, List.getElem?_cons_zero]; rfl)
        case hy4 =>
          refine Or.inl ⟨by rfl, ?_⟩
          intro wq hSw
          go_split_ands
          go_simp
          try with_reducible rfl
        (try simp only [Act.put, List.setIfInBounds_toArray, List.set_cons_zero, List.set_cons_succ])
        refine wpAnyH_take (i := 4) (oi := ?oi5) (v := ?v5) ?hi5 (by kernel_rfl) (by kernel_rfl) (by kernel_rfl) (fun _ _ _ h => h) ?hy5 hHeld ?re5
        case hi5 => (simp only [List.getElem?_toArray, List.getElem?_cons_succ, List.getElem?_cons_zero]; rfl)
        case hy5 =>
          refine Or.inl ⟨by rfl, ?_⟩
          intro wq hSw
          go_split_ands
          go_simp
          try with_reducible rfl
        (try simp only [Act.put, List.setIfInBounds_toArray, List.set_cons_zero, List.set_cons_succ])
        refine wpAnyH_take (i := 5) (oi := ?oi6) (v := ?v6) ?hi6 (by kernel_rfl) (by kernel_rfl) (by kernel_rfl) (fun _ _ _ h => h) ?hy6 hHeld ?re6
        case hi6 => (simp only [List.getElem?_toArray, List.getElem?_cons_succ, List.getElem?_cons_zero]; rfl)
        case hy6 =>
          refine Or.inl ⟨by rfl, ?_⟩
          intro wq hSw
          go_split_ands
          go_simp
          try with_reducible rfl
        (try simp only [Act.put, List.setIfInBounds_toArray, List.set_cons_zero, List.set_cons_succ])
        refine wpAnyH_take (i := 6) (oi := ?oi7) (v := ?v7) ?hi7 (by kernel_rfl) (by kernel_rfl) (by kernel_rfl) (fun _ _ _ h => h) ?hy7 hHeld ?re7
        case hi7 => (simp only [List.getElem?_toArray, List.getElem?_cons_succ, List.getElem?_cons_zero]; rfl)
        case hy7 =>
          refine Or.inl ⟨by rfl, ?_⟩
          intro wq hSw
          go_split_ands
          go_simp
          try with_reducible rfl
        (try simp only [Act.put, List.setIfInBounds_toArray, List.set_cons_zero, List.set_cons_succ])
        refine wpAnyH_take (i := 7) (oi := ?oi8) (v := ?v8) ?hi8 (by kernel_rfl) (by kernel_rfl) (by kernel_rfl) (fun _ _ _ h => h) ?hy8 hHeld ?re8
        case hi8 => (simp only [List.getElem?_toArray, List.getElem?_cons_succ, List.getElem?_cons_zero]; rfl)
        case hy8 =>
          refine Or.inl ⟨by rfl, ?_⟩
          intro wq hSw
          go_split_ands
          go_simp
          try with_reducible rfl
        (try simp only [Act.put, List.setIfInBounds_toArray, List.set_cons_zero, List.set_cons_succ])
        refine wpAnyH_take (i := 8) (oi := ?oi9) (v := ?v9) ?hi9 (by kernel_rfl) (by kernel_rfl) (by kernel_rfl) (fun _ _ _ h => h) ?hy9 hHeld ?re9
        case hi9 => (simp only [List.getElem?_toArray, List.getElem?_cons_succ, List.getElem?_cons_zero]; rfl)
        case hy9 =>
          refine Or.inl ⟨by rfl, ?_⟩
          intro wq hSw
          go_split_ands
          go_simp
          try with_reducible rfl
        (try simp only [Act.put, List.setIfInBounds_toArray, List.set_cons_zero, List.set_cons_succ])
        refine wpAnyH_take (i := 9) (oi := ?oi10) (v := ?v10) ?hi10 (by kernel_rfl) (by kernel_rfl) (by kernel_rfl) (fun _ _ _ h => h) ?hy10 hHeld ?re10
        case hi10 => (simp only [List.getElem?_toArray, List.getElem?_cons_succ, List.getElem?_cons_zero]; rfl)
        case hy10 =>
          refine Or.inl ⟨by rfl, ?_⟩
          intro wq hSw
          go_split_ands
          go_simp
          try with_reducible rfl
        (try simp only [Act.put, List.setIfInBounds_toArray, List.set_cons_zero, List.set_cons_succ])
        refine wpAnyH_take (i := 10) (oi := ?oi11) (v := ?v11) ?hi11 (by kernel_rfl) (by kernel_rfl) (by kernel_rfl) (fun _ _ _ h => h) ?hy11 hHeld ?re11
        case hi11 => (simp only [List.getElem?_toArray, List.getElem?_cons_succ, List.getElem?_cons_zero]; rfl)
        case hy11 =>
          refine Or.inl ⟨by rfl, ?_⟩
          intro wq hSw
          go_split_ands
          go_simp
          try with_reducible rfl
        (try simp only [Act.put, List.setIfInBounds_toArray, List.set_cons_zero, List.set_cons_succ])
        refine wpAnyH_take (i := 11) (oi := ?oi12) (v := ?v12) ?hi12 (by kernel_rfl) (by kernel_rfl) (by kernel_rfl) (fun _ _ _ h => h) ?hy12 hHeld ?re12
        case hi12 => (simp only [List.getElem?_toArray, List.getElem?_cons_succ, List.getElem?_cons_zero]; rfl)
        case hy12 =>
          refine Or.inl ⟨by rfl, ?_⟩
          intro wq hSw
          go_split_ands
          go_simp
          try with_reducible rfl
        (try simp only [Act.put, List.setIfInBounds_toArray, List.set_cons_zero, List.set_cons_succ])
        refine wpAnyH_take (i := 12) (oi := ?oi13) (v := ?v13) ?hi13 (by kernel_rfl) (by kernel_rfl) (by kernel_rfl) (fun _ _ _ h => h) ?hy13 hHeld ?re13
        case hi13 => (simp only [List.getElem?_toArray, List.getElem?_cons_succ, List.getElem?_cons_zero]; rfl)
        case hy13 =>
          refine Or.inl ⟨by rfl, ?_⟩
          intro wq hSw
          go_split_ands
          go_simp
          try with_reducible rfl
        (try simp only [Act.put, List.setIfInBounds_toArray, List.set_cons_zero, List.set_cons_succ])
        refine wpAnyH_take (i := 13) (oi := ?oi14) (v := ?v14) ?hi14 (by kernel_rfl) (by kernel_rfl) (by kernel_rfl) (fun _ _ _ h => h) ?hy14 hHeld ?re14
        case hi14 => (simp only [List.getElem?_toArray, List.getElem?_cons_succ, List.getElem?_cons_zero]; rfl)
        case hy14 =>
          refine Or.inl ⟨by rfl, ?_⟩
          intro wq hSw
          go_split_ands
          go_simp
          try with_reducible rfl
        (try simp only [Act.put, List.setIfInBounds_toArray, List.set_cons_zero, List.set_cons_succ])
        refine wpAnyH_ready (rs := [14]) (by kernel_rfl) (by simp) ?_
        refine AllReadyH.cons (o := ?o15) ?ho15 (fun K hK => ?st15) AllReadyH.nil
        case ho15 => (simp only [List.getElem?_toArray, List.getElem?_cons_succ, List.getElem?_cons_zero]; rfl)
        case st15 =>
          go_simp
          refine hK.out _ _ ⟨(blk_cell (blk_alloc hqr _) 0).trans rfl, (blk_cell (blk_alloc hqr _) 1).trans rfl, (blk_cell (blk_alloc hqr _) 2).trans rfl⟩ (fun hHeld => ?_)
          clear hK K
          (try simp only [Act.put, List.setIfInBounds_toArray, List.set_cons_zero, List.set_cons_succ])
          refine wpAnyH_ready (rs := [15]) (by kernel_rfl) (by simp) ?_
          refine AllReadyH.cons (o := ?o16) ?ho16 (fun K hK => ?st16) AllReadyH.nil
          case ho16 => (simp only [List.getElem?_toArray, List.getElem?_cons_succ, List.getElem?_cons_zero]; rfl)
          case st16 =>
            refine step_append_out w1.heap.size rfl (.tmp 22) (.tmp 36) rfl (.slice A i C) (l.take i) i hti q.1 q.2.1 q.2.2 rfl rfl HOr.out hBr1.size (by omega) ?_
            intro g3 cap3 w3 hO3 hg3
            have hB3 : Below w1.heap.size w1 w3 := hBr1.grown hg3 hBr1.size (fun k hk => HOr.out.own k hk)
            have hq3 : w3.heap[gq]? = some (.cells #[.int .i64 q.1, .int .i64 q.2.1, .string q.2.2] 73 (0, 0)) := (hB3.block gq (blk_lt hq1)).trans hq1
            refine hK.out _ _ ⟨(blk_cell hq3 0).trans rfl, (blk_cell hq3 1).trans rfl, (blk_cell hq3 2).trans rfl⟩ (fun hHeld => ?_)
            clear hK K
            (try simp only [Act.put, List.setIfInBounds_toArray, List.set_cons_zero, List.set_cons_succ])
            refine wpAnyH_take (i := 16) (oi := ?oi17) (v := ?v17) ?hi17 (by kernel_rfl) (by kernel_rfl) (by kernel_rfl) (fun _ _ _ h => h) ?hy17 hHeld ?re17
            case hi17 => (simp only [List.getElem?_toArray, List.getElem?_cons_succ, List.getElem?_cons_zero]; rfl)
            case hy17 =>
              refine Or.inl ⟨by rfl, ?_⟩
              intro wq hSw
              go_split_ands
              go_simp
              try with_reducible rfl
            (try simp only [Act.put, List.setIfInBounds_toArray, List.set_cons_zero, List.set_cons_succ])
            refine wpAnyH_done (by kernel_rfl) ?_ _
            refine NoPanic.normal ?_
            go_wp2
            go_roundg (l.length - i)
            case measure => have := HA.out.2; omega
            case rel => exact ⟨i + 1, _, by congr 1, rfl, ⟨by omega, by omega⟩, ⟨by rw [take_succ_of hq0]; exact hO3⟩, ⟨hB3⟩⟩
      · have hd : decide ((i : Int) < (l.length : Int)) = false := decide_eq_false (by omega)
        have hO := HOr.out
        rw [List.take_of_length_le (by omega)] at hO
        have HO := Aside0.mk hO
        clear hO
        go_wp2
        (try simp only [Exit.inBlock, Exit.then]); refine bodyPost_ret (results_tmp2 rfl _ _ _) rfl ?_
        rw [hRn.out]
        exact ⟨_, w1.heap.size, rfl, hB1.trans (hBr1.mono hB1.size), hB1.size, HO.out⟩
end Go.Proofs.YtjepdlmcombmcaaGreatDoor.Lx
