/- The reference's tokens as a row; what is held of them. Plain laws. -/
import Derived.Test.YtjepdlmcombmcaaGreatDoorRh
import Derived.Deep.AppendLies
namespace Go.Proofs.YtjepdlmcombmcaaGreatDoor.Lx
open Go.RowKit Go.Proofs.YtjepdlmcombmcaaGreatDoorW.PrintWords

/-! ### comments -/
theorem info49 : (Tryz.prog.info? 49).map (fun i => (i.zero, i.size, i.bytes)) = some (some (.agg #[.string ⟨#[]⟩, .string ⟨#[]⟩, .int .i64 0, .int .i64 0]), 4, 48) := by kernel_rfl
/-- The comments that the reference holds: none, or some of which the first one begins at c. -/
def Com9 (w : World) (base : Nat) (v : Value) (n : Nat) (c : Option Int) : Prop := ∃ xs, w.ownsRow base 49 4 v n xs ∧ ((n = 0 ∧ c = none) ∨ (0 < n ∧ ∃ c0, c = some c0 ∧ xs[2]? = some (.int .i64 c0)))
/-- A token's comments, as they are read later. -/
def ComIs (w : World) (v : Value) (c : Option Int) : Prop := match c with
  | none => ∃ A C, v = .slice A 0 C
  | some c0 => ∃ g n cap cur, v = .slice (some ⟨g, 0, none⟩) (n + 1) cap ∧ w.heap[g]? = some (.cells cur 49 (0, 0)) ∧ cur[2]? = some (.int .i64 c0)
section
variable {w w1 : World} {base n : Nat} {v : Value} {c : Option Int}
theorem Com9.nil (w : World) (base : Nat) : Com9 w base (.slice none 0 0) 0 none := ⟨[], ⟨rfl, .inl ⟨rfl, rfl⟩⟩, .inl ⟨rfl, rfl⟩⟩
theorem Com9.shape (h : Com9 w base v n c) : ∃ A C, v = .slice A n C := by
  obtain ⟨xs, ⟨_, ⟨h1, h0⟩ | ⟨g, cap, cur, hv, _⟩⟩, _⟩ := h
  · exact ⟨none, 0, by rw [h1, h0]⟩
  · exact ⟨_, _, hv⟩
theorem Com9.own (h : Com9 w base v n c) : ∀ k, v.ownBlock = some k → base ≤ k := by
  obtain ⟨xs, hR, _⟩ := h
  exact fun k hk => own_base hR k hk
theorem Com9.keep (h : Com9 w base v n c) (hk : ∀ (k : Nat) (o : Obj), base ≤ k → w.heap[k]? = some o → w1.heap[k]? = some o) : Com9 w1 base v n c := by
  obtain ⟨xs, ⟨h1, h2⟩, h3⟩ := h
  refine ⟨xs, ⟨h1, ?_⟩, h3⟩
  rcases h2 with h2 | ⟨g, cap, cur, hv, hb', hh, rest⟩
  · exact .inl h2
  · exact .inr ⟨g, cap, cur, hv, hb', hk g _ hb' hh, rest⟩
theorem Com9.is (h : Com9 w base v n c) : ComIs w v c := by
  obtain ⟨A, C, hv⟩ := h.shape
  obtain ⟨xs, ⟨hl, hr⟩, ⟨h0, rfl⟩ | ⟨h0, c0, rfl, hx⟩⟩ := h
  · exact ⟨A, C, by rw [hv, h0]⟩
  · rcases hr with ⟨_, hn⟩ | ⟨g, cap, cur, hv, _, hh, _, _, _, ht⟩
    · omega
    · refine ⟨g, n - 1, cap, cur, by rw [hv]; congr 1; omega, hh, ?_⟩
      rw [← Array.getElem?_toList, ← hx, ← ht, List.getElem?_take_of_lt (by omega)]
theorem ComIs.keep (h : ComIs w v c) (hk : ∀ (g : Nat) (cur : Array Value), w.heap[g]? = some (.cells cur 49 (0, 0)) → w1.heap[g]? = some (.cells cur 49 (0, 0))) : ComIs w1 v c := by
  cases c with
  | none => exact h
  | some c0 =>
    obtain ⟨g, n, cap, cur, hv, hh, hc⟩ := h
    exact ⟨g, n, cap, cur, hv, hk g cur hh, hc⟩
theorem ComIs.first {c0 : Int} (h : ComIs w v (some c0)) : ∃ g n cap, v = .slice (some ⟨g, 0, none⟩) (n + 1) cap ∧ w.cell? ⟨g, 2, none⟩ = some (.int .i64 c0) := by
  obtain ⟨g, n, cap, cur, hv, hh, hc⟩ := h
  exact ⟨g, n, cap, hv, by rw [cell_of_row w g 2 cur 49 (0, 0) hh, hc]⟩
end
/-- append onto the comments that the reference holds, as a step of a region that draws. -/
theorem step_append_com9 {ops : Array Oper} {o : Oper} {a : Act} {K : Act → World → Prop} {Q : Exit → Act → World → Prop} {E : Prop} {W : World} (base : Nat) (hgd : o.guard = none) (s x : Operand)
    (ho : o.op = .call { callee := .builtin .append, args := #[s, x], argTypes := #[43, 43] })
    (v : Value) (n : Nat) (c : Option Int) (sp raw : ByteArray) (p e : Int) (hs : a.eval s = v) (hx : a.eval x = .slice (some ⟨W.heap.size, 0, none⟩) 1 1)
    (HO : Com9 W base v n c) (hbase : base ≤ W.heap.size) (hb : n ≤ 100000)
    (h : ∀ g cap w1, Com9 w1 base (.slice (some ⟨g, 0, none⟩) (n + 1) cap) (n + 1) (some (c.getD p)) → W.grownBy w1 v.ownBlock → K (a.put o.dst (.slice (some ⟨g, 0, none⟩) (n + 1) cap)) w1) :
    if Region.wanted o (yielded ops a.tmps) = true then Oper.wp Tryz.prog o a (W.alloc (.cells #[.string sp, .string raw, .int .i64 p, .int .i64 e] 49)).drew K Q else E := by
  obtain ⟨i0, hi, hzz⟩ := Option.map_eq_some_iff.1 info49
  simp only [Prod.mk.injEq] at hzz
  obtain ⟨hz0, hz1, hz2⟩ := hzz
  obtain ⟨xs, HR, hc⟩ := HO
  refine step_append_lies (W.alloc (.cells #[.string sp, .string raw, .int .i64 p, .int .i64 e] 49)).drew hgd s x 43 ho base 49 i0 _ 4 48 Tryz.underlying43 hi hz0 hz1 hz2 rfl (by omega) v n xs hs (HR.alloc _) ⟨W.heap.size, 0, none⟩ 1 1 [.string sp, .string raw, .int .i64 p, .int .i64 e] hx rfl
    (World.news_of_block (cs := #[.string sp, .string raw, .int .i64 p, .int .i64 e]) (t := 49) (fr := (0, 0)) (heap_alloc_new W _)) ?_ (by omega) (by simp only [maxLen]; omega) (by omega) (by show base ≤ (W.alloc _).heap.size; simp [go_sem]; omega) _ rfl ?_
  · intro u hu
    simp only [List.mem_cons, List.not_mem_nil, or_false] at hu
    rcases hu with rfl | rfl | rfl | rfl <;> rfl
  · intro g cap w1 hown hg _ _
    refine h g cap w1 ⟨_, hown, .inr ⟨by omega, ?_⟩⟩ (World.grownBy.trans (World.grownBy_alloc W _ _) ⟨hg.os, hg.tape, hg.output, hg.size, hg.block⟩)
    have hlen : xs.length = n * 4 := HR.1
    rcases hc with ⟨h0, rfl⟩ | ⟨h0, c0, rfl, hx2⟩
    · refine ⟨p, rfl, ?_⟩
      have hnil : xs = [] := List.eq_nil_of_length_eq_zero (by omega)
      rw [hnil]
      rfl
    · refine ⟨c0, rfl, ?_⟩
      rw [List.getElem?_append_left (by omega)]
      exact hx2
/-! ### tokens -/
theorem info45 : (Tryz.prog.info? 45).map (fun i => (i.zero, i.size, i.bytes)) = some (some (.agg #[.string ⟨#[]⟩, .string ⟨#[]⟩, .string ⟨#[]⟩, .string ⟨#[]⟩, .int .i64 0, .int .i64 0, .int .i64 0, .slice none 0 0]), 8, 112) := by kernel_rfl
def Tt.list (y : Tt) : List Value := [.string y.kind, .string y.sp, .string y.raw, .string y.txt, .int .i64 y.base, .int .i64 y.tp, .int .i64 y.te, y.com]
theorem Tt.list_length (ys : List Tt) : (ys.flatMap Tt.list).length = ys.length * 8 := by
  induction ys with
  | nil => rfl
  | cons y ys ih =>
    simp only [List.flatMap_cons, List.length_append, ih, List.length_cons, Tt.list, List.length_nil]
    omega
theorem Tt.list_get : ∀ (ys : List Tt) (i : Nat) (y : Tt) (k : Nat), ys[i]? = some y → k < 8 → (ys.flatMap Tt.list)[i * 8 + k]? = y.list[k]? := by
  intro ys
  induction ys with
  | nil => intro i y k h; simp at h
  | cons z ys ih =>
    intro i y k h hk
    have hl : (Tt.list z).length = 8 := rfl
    cases i with
    | zero =>
      have e : z = y := by simpa using h
      subst e
      simp only [List.flatMap_cons, Nat.zero_mul, Nat.zero_add]
      rw [List.getElem?_append_left (by omega)]
    | succ i =>
      simp only [List.flatMap_cons]
      rw [List.getElem?_append_right (by omega), hl, show (i + 1) * 8 + k - 8 = i * 8 + k by omega]
      exact ih i y k (by simpa using h) hk
/-- The slice v holds just the tokens ys. -/
def TRow (w : World) (base : Nat) (v : Value) (ys : List Tt) : Prop := w.ownsRow base 45 8 v ys.length (ys.flatMap Tt.list)
theorem TRow.nil (w : World) (base : Nat) : TRow w base (.slice none 0 0) [] := ⟨rfl, .inl ⟨rfl, rfl⟩⟩
section
variable {w w1 : World} {base : Nat} {v : Value} {ys : List Tt}
theorem TRow.shape (h : TRow w base v ys) : ∃ A C, v = .slice A ys.length C := by
  obtain ⟨_, ⟨rfl, h0⟩ | ⟨g, cap, cur, rfl, _⟩⟩ := h
  · exact ⟨none, 0, by rw [h0]⟩
  · exact ⟨_, _, rfl⟩
theorem TRow.own (h : TRow w base v ys) : ∀ k, v.ownBlock = some k → base ≤ k := fun k hk => own_base h k hk
theorem TRow.at (h : TRow w base v ys) : ∀ k, v.ownBlock = some k → k < w.heap.size ∧ ∃ cur, w.heap[k]? = some (.cells cur 45 (0, 0)) := by
  intro k hk
  rcases h.2 with ⟨rfl, _⟩ | ⟨g', cap', cur', rfl, _, hh, _⟩
  · simp [Value.ownBlock] at hk
  · have : g' = k := by simpa [Value.ownBlock] using hk
    rw [← this]
    exact ⟨blk_lt hh, cur', hh⟩
theorem TRow.below (h : TRow w base v ys) (hb : Below w.heap.size w w1) : TRow w1 base v ys := by
  obtain ⟨h1, h2⟩ := h
  refine ⟨h1, ?_⟩
  rcases h2 with h2 | ⟨g, cap, cur, hv, hb', hh, rest⟩
  · exact .inl h2
  · exact .inr ⟨g, cap, cur, hv, hb', (hb.block g (blk_lt hh)).trans hh, rest⟩
theorem TRow.get (h : TRow w base v ys) {i : Nat} {y : Tt} (hy : ys[i]? = some y) : ∃ G C, v = .slice (some ⟨G, 0, none⟩) ys.length C ∧ ∀ k, k < 8 → w.cell? ⟨G, i * 8 + k, none⟩ = y.list[k]? := by
  obtain ⟨h1, ⟨_, h0⟩ | ⟨g, cap, cur, hv, _, hh, _, _, _, ht⟩⟩ := h
  · rw [List.length_eq_zero_iff.1 h0] at hy
    simp at hy
  · have hi := (List.getElem?_eq_some_iff.1 hy).1
    refine ⟨g, cap, hv, fun k hk => ?_⟩
    rw [cell_of_row w g _ cur 45 (0, 0) hh, ← Array.getElem?_toList, ← Tt.list_get ys i y k hy hk, ← ht, List.getElem?_take_of_lt (by omega)]
end
section
variable {ops : Array Oper} {rest : List Oper} {o : Oper} {a : Act} {Q : Exit → Act → World → Prop}
/-- append(v, y), v a row of tokens of the call's own. -/
theorem append_tok {W : World} (base : Nat) (hgd : o.guard = none) (s x : Operand)
    (ho : o.op = .call { callee := .builtin .append, args := #[s, x], argTypes := #[40, 40] })
    (v : Value) (ys : List Tt) (y : Tt) (H : Nat) (hH : W.heap.size = H) (hs : a.eval s = v) (hx : a.eval x = .slice (some ⟨H, 0, none⟩) 1 1) (hcom : ∃ A n C, y.com = .slice A n C)
    (HO : TRow W base v ys) (hbase : base ≤ W.heap.size) (hb : ys.length ≤ 100000)
    (h : ∀ v1 w1, TRow w1 base v1 (ys ++ [y]) → (W.alloc (.cells y.cells 45)).grownBy w1 v.ownBlock → wpList Tryz.prog ops Q rest (a.put o.dst v1) w1) :
    wpList Tryz.prog ops Q (o :: rest) a (W.alloc (.cells y.cells 45)) := by
  subst hH
  obtain ⟨i0, hi, hzz⟩ := Option.map_eq_some_iff.1 info45
  simp only [Prod.mk.injEq] at hzz
  obtain ⟨hz0, hz1, hz2⟩ := hzz
  refine wpList_append_own_at (W.alloc (.cells y.cells 45)) hgd s x 40 ho base 45 i0 _ 8 112 Tryz.underlying40 hi hz0 hz1 hz2 rfl (by omega) v ys.length (ys.flatMap Tt.list) hs (HO.alloc _) ⟨W.heap.size, 0, none⟩ 1 1 y.list hx rfl
    (World.news_of_block (cs := y.cells) (t := 45) (fr := (0, 0)) (heap_alloc_new W _)) ?_ (by simp only [maxLen]; omega) (by omega) (by simp [go_sem]; omega) ?_
  · intro u hu
    obtain ⟨A, n, C, hc⟩ := hcom
    simp only [Tt.list, List.mem_cons, List.not_mem_nil, or_false] at hu
    rcases hu with rfl | rfl | rfl | rfl | rfl | rfl | rfl | rfl
    all_goals first | rfl | (rw [hc]; rfl)
  · intro v1 w1 hown hg _ _
    refine h v1 w1 ?_ hg
    unfold TRow
    rw [List.length_append, List.flatMap_append]
    simpa using hown
end
/-- The token y is the told token t. -/
def TkIs (w : World) (y : Tt) (t : Tk) : Prop := kd y.kind.toList = t.kd ∧ y.tp = t.pos ∧ ComIs w y.com t.com
def TksIs (w : World) (ys : List Tt) (ts : List Tk) : Prop := ys.length = ts.length ∧ ∀ (i : Nat) (y : Tt) (t : Tk), ys[i]? = some y → ts[i]? = some t → TkIs w y t
theorem TksIs.keep {w w1 : World} {ys : List Tt} {ts : List Tk} (h : TksIs w ys ts) (hk : ∀ (g : Nat) (cur : Array Value), w.heap[g]? = some (.cells cur 49 (0, 0)) → w1.heap[g]? = some (.cells cur 49 (0, 0))) : TksIs w1 ys ts :=
  ⟨h.1, fun i y t h1 h2 => by obtain ⟨a, b, c⟩ := h.2 i y t h1 h2; exact ⟨a, b, c.keep hk⟩⟩
theorem TksIs.snoc {w : World} {ys : List Tt} {ts : List Tk} {y : Tt} {t : Tk} (h : TksIs w ys ts) (hy : TkIs w y t) : TksIs w (ys ++ [y]) (ts ++ [t]) := by
  refine ⟨by simp [h.1], fun i y' t' h1 h2 => ?_⟩
  by_cases hi : i < ys.length
  · rw [List.getElem?_append_left hi] at h1
    rw [List.getElem?_append_left (by rw [← h.1]; exact hi)] at h2
    exact h.2 i y' t' h1 h2
  · have hi' : i = ys.length := by
      have := (List.getElem?_eq_some_iff.1 h1).1
      simp at this
      omega
    subst hi'
    have e1 : y' = y := by simpa using h1.symm
    have e2 : t' = t := by rw [h.1] at h2; simpa using h2.symm
    rw [e1, e2]
    exact hy
/-- What the tokens so far say to the next one. -/
def LastIs (ys : List Tt) (last : Kd) (dot : Bool) : Prop := (ys = [] ∧ last = .other ∧ dot = false) ∨ (∃ y1, ys = [y1] ∧ last = kd y1.kind.toList ∧ dot = false) ∨ (∃ zs y2 y1, ys = zs ++ [y2, y1] ∧ last = kd y1.kind.toList ∧ dot = dotOf (kd y2.kind.toList) (kd y1.kind.toList))
theorem LastIs.snoc {ys : List Tt} {last : Kd} {dot : Bool} (h : LastIs ys last dot) (y : Tt) : LastIs (ys ++ [y]) (kd y.kind.toList) (dotOf last (kd y.kind.toList)) := by
  rcases h with ⟨rfl, rfl, rfl⟩ | ⟨y1, rfl, rfl, rfl⟩ | ⟨zs, y2, y1, rfl, rfl, rfl⟩
  · refine .inr (.inl ⟨y, rfl, rfl, ?_⟩)
    unfold dotOf
    rw [show isFd .other = false from rfl, Bool.and_false]
  · exact .inr (.inr ⟨[], y1, y, rfl, rfl, rfl⟩)
  · exact .inr (.inr ⟨zs ++ [y2], y1, y, by simp, rfl, rfl⟩)
theorem LastIs.dot {ys : List Tt} {last : Kd} {dot : Bool} (h : LastIs ys last dot) (hd : dot = true) : last = .dot := by
  rcases h with ⟨_, _, rfl⟩ | ⟨y1, _, _, rfl⟩ | ⟨zs, y2, y1, _, rfl, rfl⟩
  · cases hd
  · cases hd
  · unfold dotOf at hd
    simp only [Bool.and_eq_true, decide_eq_true_eq] at hd
    exact hd.1
/-! ### blanks -/
theorem run_congr {p q : Int → Bool} {s : ByteArray} (h : ∀ j : Int, 0 ≤ j → j < (s.size : Int) → p (bt s j) = q (bt s j)) : ∀ (i : Int), 0 ≤ i → run p s i = run q s i := by
  have key : ∀ (k : Nat) (i : Int), 0 ≤ i → ((s.size : Int) - i).toNat ≤ k → run p s i = run q s i := by
    intro k
    induction k with
    | zero => intro i _ hk; rw [run_end (by omega), run_end (by omega)]
    | succ k ih =>
      intro i i0 hk
      by_cases hi : i < (s.size : Int)
      · cases hq : q (bt s i) with
        | true => rw [run_step hi hq, run_step hi ((h i i0 hi).trans hq)]; exact ih (i + 1) (by omega) (by omega)
        | false => rw [run_stop hq, run_stop ((h i i0 hi).trans hq)]
      · rw [run_end (by omega), run_end (by omega)]
  exact fun i i0 => key _ i i0 (Nat.le_refl _)
theorem Txt.blanks {s : ByteArray} (hT : Txt s) {i : Int} (h0 : 0 ≤ i) : run isBlank s i = run isSp s i :=
  run_congr (fun j j0 j1 => by
    have := hT.rng j j0 j1
    unfold isBlank isSp
    rw [decide_eq_decide]
    omega) i h0
end Go.Proofs.YtjepdlmcombmcaaGreatDoor.Lx
