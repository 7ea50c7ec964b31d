/- The next token: what nextToken leaves. Conditions: the lexer's state; what the readers of tokens leave. -/
import Derived.Test.YtjepdlmcombmcaaGreatDoorQe
namespace Go.Proofs.YtjepdlmcombmcaaGreatDoor.Lx
open Go.RowKit Go.Proofs.YtjepdlmcombmcaaGreatDoorW.PrintWords

/-! ### comments -/
theorem info97 : (Tryz.prog.info? 97).map (fun i => (i.zero, i.size, i.bytes)) = some (some (.agg #[.string ⟨#[]⟩, .string ⟨#[]⟩, .int .i64 0, .int .i64 0]), 4, 48) := by kernel_rfl
/-- The comments that are held: none, or some of which the first one begins at c. -/
def ComAt (w : World) (base : Nat) (v : Value) (n : Nat) (c : Option Int) : Prop := ∃ xs, w.ownsRow base 97 4 v n xs ∧ ((n = 0 ∧ c = none) ∨ (0 < n ∧ ∃ c0, c = some c0 ∧ xs[2]? = some (.int .i64 c0)))
section
variable {ops : Array Oper} {rest : List Oper} {o : Oper} {a : Act} {Q : Exit → Act → World → Prop}
theorem append_com {W : World} (base : Nat) (hgd : o.guard = none) (s x : Operand)
    (ho : o.op = .call { callee := .builtin .append, args := #[s, x], argTypes := #[62, 62] })
    (v : Value) (n : Nat) (c : Option Int) (sp raw : ByteArray) (p e : Int) (hs : a.eval s = v) (hx : a.eval x = .slice (some ⟨W.heap.size, 0, none⟩) 1 1)
    (HO : ComAt W base v n c) (hbase : base ≤ W.heap.size) (hb : n ≤ 100000)
    (h : ∀ v1 w1, ComAt w1 base v1 (n + 1) (some (c.getD p)) → W.grownBy w1 v.ownBlock → (∀ k, v.ownBlock = some k → base ≤ k) → wpList Tryz.prog ops Q rest (a.put o.dst v1) w1) :
    wpList Tryz.prog ops Q (o :: rest) a (W.alloc (.cells #[.string sp, .string raw, .int .i64 p, .int .i64 e] 97)) := by
  obtain ⟨i0, hi, hzz⟩ := Option.map_eq_some_iff.1 info97
  simp only [Prod.mk.injEq] at hzz
  obtain ⟨hz0, hz1, hz2⟩ := hzz
  obtain ⟨xs, HR, hc⟩ := HO
  refine wpList_append_own_at (W.alloc (.cells #[.string sp, .string raw, .int .i64 p, .int .i64 e] 97)) hgd s x 62 ho base 97 i0 _ 4 48 Tryz.underlying62 hi hz0 hz1 hz2 rfl (by omega) v n xs hs (HR.alloc _) ⟨W.heap.size, 0, none⟩ 1 1 [.string sp, .string raw, .int .i64 p, .int .i64 e] hx rfl
    (World.news_of_block (cs := #[.string sp, .string raw, .int .i64 p, .int .i64 e]) (t := 97) (fr := (0, 0)) (heap_alloc_new W _)) ?_ (by simp only [maxLen]; omega) (by omega) (by simp [go_sem]; omega) ?_
  · intro u hu
    simp only [List.mem_cons, List.not_mem_nil, or_false] at hu
    rcases hu with rfl | rfl | rfl | rfl <;> rfl
  · intro v1 w1 hown hg _ _
    refine h v1 w1 ⟨_, hown, .inr ⟨by omega, ?_⟩⟩ (World.grownBy.trans (World.grownBy_alloc W _ _) hg) (fun k hk => own_base HR k hk)
    have hlen : xs.length = n * 4 := HR.1
    rcases hc with ⟨h0, rfl⟩ | ⟨h0, c0, rfl, hx2⟩
    · refine ⟨p, rfl, ?_⟩
      have hnil : xs = [] := List.eq_nil_of_length_eq_zero (by omega)
      rw [hnil]
      rfl
    · refine ⟨c0, rfl, ?_⟩
      rw [List.getElem?_append_left (by omega)]
      exact hx2
end
theorem ComAt.nil (w : World) (base : Nat) : ComAt w base (.slice none 0 0) 0 none := ⟨[], ⟨rfl, .inl ⟨rfl, rfl⟩⟩, .inl ⟨rfl, rfl⟩⟩
theorem ComAt.ups {w w1 : World} {base b : Nat} {v : Value} {n : Nat} {c : Option Int} (h : ComAt w base v n c) (hU : Ups b w w1) (hb : b < base) : ComAt w1 base v n c := by
  obtain ⟨xs, h1, h2⟩ := h
  refine ⟨xs, own_other h1 (row := some b) ⟨hU.os, hU.tape, hU.output, hU.size, fun k hk hne => hU.block k hk (fun e => hne (by rw [e]))⟩ (.inr fun he => ?_), h2⟩
  have := own_base h1 b he
  omega
theorem Ups.grown {b : Nat} {u W w1 : World} {row : Option Nat} (h : Ups b u W) (hg : W.grownBy w1 row) (hr : ∀ k, row = some k → u.heap.size ≤ k) : Ups b u w1 := by
  refine ⟨hg.os.trans h.os, hg.tape.trans h.tape, hg.output.trans h.output, Nat.le_trans h.size hg.size, fun k hk hne => (hg.block k (Nat.lt_of_lt_of_le hk h.size) ?_).trans (h.block k hk hne)⟩
  intro he
  have := hr k he.symm
  omega
/-! ### gaps -/
theorem isSp_run (s : ByteArray) (q : Int) (hq : q ≤ (s.size : Int)) : isSp (bt s (run isSp s q)) = false := by
  have h1 := run_le (p := isSp) (s := s) hq
  by_cases h : run isSp s q < (s.size : Int)
  · exact upto_at (Q := fun j => isSp (bt s j)) h
  · rw [bt_far s _ (by omega)]
    rfl
theorem comm_self {s : ByteArray} {a : Int} (h0 : 0 ≤ a) (h : comm s a = some a) : bt s a ≠ 35 := by
  intro hb
  have h1 := bt_in hb (by omega) h0
  unfold comm isLineC at h
  rw [hb] at h
  simp only [beq_self_eq_true, Bool.true_or, if_true, Option.some.injEq] at h
  have := run_ge (fun c => c != 10) s a
  unfold lineEnd at h
  omega
theorem gap_here {s : ByteArray} {k : Nat} {q : Int} (h : comm s (run isSp s q) = some (run isSp s q)) : gap s (k + 1) q = some (run isSp s q) := by
  simp only [gap]
  rw [h]
  simp
theorem gap_none {s : ByteArray} {k : Nat} {q : Int} (h : comm s (run isSp s q) = none) : gap s (k + 1) q = none := by
  simp only [gap]
  rw [h]
theorem gap_on {s : ByteArray} {k : Nat} {q e : Int} (h : comm s (run isSp s q) = some e) (hne : e ≠ run isSp s q) : gap s (k + 1) q = gap s k e := by
  simp only [gap]
  rw [h]
  simp only []
  rw [if_neg hne]
/-- What the next token leaves. -/
def Nexts (b fb : Nat) (last : Kd) (r : Option Tk) (w : World) (e : Ending) (w' : World) : Prop :=
  match r with
  | some t => e = .returned (.tuple #[]) ∧ Ups b w w' ∧ ∃ y n, IsL w' b fb y ∧ kd y.kind.toList = t.kd ∧ y.tp = t.pos ∧ y.pos = t.e ∧ y.dot = dotOf last t.kd ∧ ComAt w' w.heap.size y.com n t.com
  | none => Fails b fb w e w'
end Go.Proofs.YtjepdlmcombmcaaGreatDoor.Lx
