/- The statements that are cut: a row of pointers, each to a place, a place and a text of its own. Plain laws. -/
import Derived.Test.YtjepdlmcombmcaaGreatDoorQh
import Derived.Deep.AppendLies
namespace Go.Proofs.YtjepdlmcombmcaaGreatDoor.Lx
open Go.RowKit Go.Proofs.YtjepdlmcombmcaaGreatDoorW.PrintWords

theorem info71 : (Tryz.prog.info? 71).map (fun i => (i.zero, i.size, i.bytes)) = some (some (.pointer none), 1, 8) := by kernel_rfl
/-- The slice v holds pointers to just the statements l. -/
def PRow (w : World) (base : Nat) (v : Value) (l : List (Int × Int × ByteArray)) : Prop := ∃ gs : List Nat, gs.length = l.length ∧ w.ownsRow base 71 1 v l.length (gs.map fun g => .pointer (some ⟨g, 0, none⟩)) ∧
  ∀ (i g : Nat) (q : Int × Int × ByteArray), gs[i]? = some g → l[i]? = some q → base ≤ g ∧ v.ownBlock ≠ some g ∧ w.heap[g]? = some (.cells #[.int .i64 q.1, .int .i64 q.2.1, .string q.2.2] 73 (0, 0))
theorem PRow.nil (w : World) (base : Nat) : PRow w base (.slice none 0 0) [] := ⟨[], rfl, ⟨rfl, .inl ⟨rfl, rfl⟩⟩, fun i g q h => by simp at h⟩
section
variable {w w1 : World} {base : Nat} {v : Value} {l : List (Int × Int × ByteArray)}
theorem PRow.shape (h : PRow w base v l) : ∃ A C, v = .slice A l.length C := by
  obtain ⟨gs, _, ⟨_, ⟨rfl, h0⟩ | ⟨g, cap, cur, rfl, _⟩⟩, _⟩ := h
  · exact ⟨none, 0, by rw [h0]⟩
  · exact ⟨_, _, rfl⟩
theorem PRow.own (h : PRow w base v l) : ∀ k, v.ownBlock = some k → base ≤ k := by
  obtain ⟨gs, _, hR, _⟩ := h
  exact fun k hk => own_base hR k hk
/-- Whatever leaves the blocks from base on as they were keeps it. -/
theorem PRow.keep (h : PRow w base v l) (hU : ∀ (k : Nat) (o : Obj), base ≤ k → w.heap[k]? = some o → w1.heap[k]? = some o) : PRow w1 base v l := by
  obtain ⟨gs, h1, ⟨h2, h3⟩, h4⟩ := h
  refine ⟨gs, h1, ⟨h2, ?_⟩, fun i g q hg hq => ?_⟩
  · rcases h3 with h3 | ⟨g, cap, cur, hv, hb, hh, rest⟩
    · exact .inl h3
    · exact .inr ⟨g, cap, cur, hv, hb, hU g _ hb hh, rest⟩
  · obtain ⟨a, b, c⟩ := h4 i g q hg hq
    exact ⟨a, b, hU g _ a c⟩
theorem PRow.ups {b : Nat} (h : PRow w base v l) (hU : Ups b w w1) (hb : b < base) : PRow w1 base v l := h.keep fun _ _ hk ho => hU.obj ho (by omega)
theorem PRow.drew (h : PRow w base v l) : PRow w.drew base v l := h.keep fun _ _ _ ho => ho
theorem PRow.drewN (h : PRow w base v l) (n : Nat) : PRow (w.drewN n) base v l := h.keep fun _ _ _ ho => ho
theorem PRow.below (h : PRow w base v l) (hb : Below w.heap.size w w1) : PRow w1 base v l := h.keep fun k _ _ ho => (hb.block k (blk_lt ho)).trans ho
end
theorem Ups2.to_below {b fb B : Nat} {u w : World} (h : Ups2 b fb u w) (hb : B ≤ b) (hf : B ≤ fb) (hB : B ≤ u.heap.size) : Below B u w :=
  ⟨h.os, h.tape, h.output, h.size, fun k hk => h.block k (by omega) (by omega) (by omega)⟩
/-- append of a new statement, as a step of a region that draws. -/
theorem step_append_raw {ops : Array Oper} {o : Oper} {a : Act} {K : Act → World → Prop} {Q : Exit → Act → World → Prop} {E : Prop} {W : World} (base : Nat) (hgd : o.guard = none) (s x : Operand)
    (ho : o.op = .call { callee := .builtin .append, args := #[s, x], argTypes := #[68, 68] })
    (v : Value) (l : List (Int × Int × ByteArray)) (p e : Int) (st : ByteArray) (hs : a.eval s = v) (hx : a.eval x = .slice (some ⟨W.heap.size + 1, 0, none⟩) 1 1)
    (HO : PRow W base v l) (hbase : base ≤ W.heap.size) (hb : l.length ≤ 100000)
    (h : ∀ g cap w1, PRow w1 base (.slice (some ⟨g, 0, none⟩) (l.length + 1) cap) (l ++ [(p, e, st)]) → W.grownBy w1 v.ownBlock → K (a.put o.dst (.slice (some ⟨g, 0, none⟩) (l.length + 1) cap)) w1) :
    if Region.wanted o (yielded ops a.tmps) = true then Oper.wp Tryz.prog o a ((W.alloc (.cells #[.int .i64 p, .int .i64 e, .string st] 73)).alloc (.cells #[.pointer (some ⟨W.heap.size, 0, none⟩)] 71)).drew K Q else E := by
  obtain ⟨i0, hi, hzz⟩ := Option.map_eq_some_iff.1 info71
  simp only [Prod.mk.injEq] at hzz
  obtain ⟨hz0, hz1, hz2⟩ := hzz
  obtain ⟨gs, hl, HR, hp⟩ := HO
  have hW1 : (W.alloc (.cells #[.int .i64 p, .int .i64 e, .string st] 73)).heap.size = W.heap.size + 1 := by simp
  have hW2 : ((W.alloc (.cells #[.int .i64 p, .int .i64 e, .string st] 73)).alloc (.cells #[.pointer (some ⟨W.heap.size, 0, none⟩)] 71)).drew.heap.size = W.heap.size + 2 := by
    show ((W.alloc _).alloc _).heap.size = _
    simp
  have hnew : ((W.alloc (.cells #[.int .i64 p, .int .i64 e, .string st] 73)).alloc (.cells #[.pointer (some ⟨W.heap.size, 0, none⟩)] 71)).drew.heap[W.heap.size + 1]? = some (.cells #[.pointer (some ⟨W.heap.size, 0, none⟩)] 71 (0, 0)) := by
    have := heap_alloc_new (W.alloc (.cells #[.int .i64 p, .int .i64 e, .string st] 73)) (.cells #[.pointer (some ⟨W.heap.size, 0, none⟩)] 71)
    rw [hW1] at this
    exact this
  have hst : ((W.alloc (.cells #[.int .i64 p, .int .i64 e, .string st] 73)).alloc (.cells #[.pointer (some ⟨W.heap.size, 0, none⟩)] 71)).drew.heap[W.heap.size]? = some (.cells #[.int .i64 p, .int .i64 e, .string st] 73 (0, 0)) := blk_alloc (heap_alloc_new W _) _
  have hold : ∀ k o, W.heap[k]? = some o → ((W.alloc (.cells #[.int .i64 p, .int .i64 e, .string st] 73)).alloc (.cells #[.pointer (some ⟨W.heap.size, 0, none⟩)] 71)).drew.heap[k]? = some o := fun k o hk => blk_alloc (blk_alloc hk _) _
  refine step_append_lies _ hgd s x 68 ho base 71 i0 _ 1 8 Tryz.underlying68 hi hz0 hz1 hz2 rfl (by omega) v l.length (gs.map fun g => .pointer (some ⟨g, 0, none⟩)) hs ((HR.alloc _).alloc _) ⟨W.heap.size + 1, 0, none⟩ 1 1 [.pointer (some ⟨W.heap.size, 0, none⟩)] hx rfl
    (World.news_of_block (cs := #[.pointer (some ⟨W.heap.size, 0, none⟩)]) (t := 71) (fr := (0, 0)) hnew) ?_ (by omega) (by simp only [maxLen]; omega) (by omega) (by rw [hW2]; omega) _ hW2 ?_
  · intro u hu
    simp only [List.mem_cons, List.not_mem_nil, or_false] at hu
    rw [hu]
    rfl
  · intro g cap w1 hown hg hat _
    have hgb : ∀ k, v.ownBlock = some k → k < W.heap.size := by
      intro k hk
      rcases HR.2 with ⟨rfl, _⟩ | ⟨g', cap', cur', rfl, _, hh, _⟩
      · simp [Value.ownBlock] at hk
      · have : g' = k := by simpa [Value.ownBlock] using hk
        rw [← this]
        exact blk_lt hh
    refine h g cap w1 ⟨gs ++ [W.heap.size], by simp [hl], ?_, fun i g' q hg' hq => ?_⟩ ⟨hg.os, hg.tape, hg.output, by have := hg.size; rw [hW2] at this; omega, fun k hk hne => ?_⟩
    · simpa using hown
    · by_cases hlt : i < gs.length
      · rw [List.getElem?_append_left hlt] at hg'
        rw [List.getElem?_append_left (by omega)] at hq
        obtain ⟨h1, h2, h3⟩ := hp i g' q hg' hq
        have h4 := blk_lt h3
        refine ⟨h1, fun he => ?_, ?_⟩
        · have he : g = g' := by simpa [Value.ownBlock] using he
          rcases hat with hat | hat
          · exact h2 (by rw [hat, he])
          · omega
        · rw [hg.block g' (by rw [hW2]; omega) (fun he => h2 he.symm)]
          exact hold g' _ h3
      · have hi : i = gs.length := by
          have := (List.getElem?_eq_some_iff.1 hg').1
          simp at this
          omega
        subst hi
        have e1 : g' = W.heap.size := by simpa using hg'.symm
        have e2 : q = (p, e, st) := by
          rw [hl] at hq
          simpa using hq.symm
        subst e1 e2
        refine ⟨hbase, fun he => ?_, ?_⟩
        · have he : g = W.heap.size := by simpa [Value.ownBlock] using he
          rcases hat with hat | hat
          · have := hgb g hat
            omega
          · omega
        · rw [hg.block W.heap.size (by rw [hW2]; omega) (fun he => by have := hgb _ he.symm; omega)]
          exact hst
    · rw [hg.block k (by rw [hW2]; omega) hne]
      have h5 : W.heap[k]? = some (W.heap[k]'hk) := Array.getElem?_eq_getElem hk
      rw [h5]
      exact hold k _ h5
end Go.Proofs.YtjepdlmcombmcaaGreatDoor.Lx
