/- A parsed type is read, and a text is read as a type. Conditions: the type lies; the text parses. -/
import Derived.Test.YtjepdlmcombmcaaGreatDoorLw
namespace Go.Proofs.YtjepdlmcombmcaaGreatDoor.Lx
open Go.RowKit Go.Proofs.YtjepdlmcombmcaaGreatDoorW.PrintWords



theorem ta107 (W : World) (v : Value) : (Instr.typeAssert (.iface 107 v) 79 107 true).run Tryz.prog W = .ok (.tuple #[v, .bool true]) W := by
  simp [Instr.typeAssert, run_underlying Tryz.underlying107, go_sem, Result.andThen]
theorem ta111 (W : World) (v : Value) : (Instr.typeAssert (.iface 111 v) 79 111 true).run Tryz.prog W = .ok (.tuple #[v, .bool true]) W := by
  simp [Instr.typeAssert, run_underlying Tryz.underlying111, go_sem, Result.andThen]
theorem ta111n (W : World) (v : Value) : (Instr.typeAssert (.iface 111 v) 79 107 true).run Tryz.prog W = .ok (.tuple #[.pointer none, .bool false]) W := by
  simp [Instr.typeAssert, run_underlying Tryz.underlying107, go_sem, Result.andThen, zeroValue, Tryz.t107]

set_option maxRecDepth 100000 in
set_option maxHeartbeats 1000000 in
theorem readSimple_c (r : Nat) (nm : ByteArray) (w : World) (hR : Simple w r nm) :
    Calls Tryz.prog 32 #[.iface 107 (.pointer (some ⟨r, 0, none⟩))] w fun e w' => e = .returned (.tuple #[(Value.agg #[Value.string ⟨#[115, 105, 109, 112, 108, 101]⟩, Value.string nm, Value.string ⟨#[]⟩, Value.slice none 0 0, Value.slice none 0 0]), .bool true]) ∧ Below w.heap.size w w' := by
  obtain ⟨tp, hR⟩ := hR
  have h1 : ∀ o, (w.alloc o).cell? ⟨r, 1, none⟩ = some (.string nm) := fun o => Simple.name ⟨tp, blk_alloc hR o⟩
  have h2 := ta107
  go_enter Tryz.func32, Tryz.ntmps32
  go_wp2
  (try simp only [Exit.inBlock, Exit.then])
  refine bodyPost_ret (results_ct rfl _ _ w.heap.size 34 _ (0, 0) _ rfl (blk_new _ _) Tryz.underlying34 rfl rfl) rfl ?_
  exact ⟨rfl, below_alloc (Below.refl _ _) _⟩

theorem Simple.alloc {w : World} {r : Nat} {nm : ByteArray} (h : Simple w r nm) (o : Obj) : Simple (w.alloc o) r nm := by
  obtain ⟨tp, h⟩ := h
  exact ⟨tp, blk_alloc h o⟩
set_option maxRecDepth 100000 in
set_option maxHeartbeats 1000000 in
theorem readArray_c (r : Nat) (nm : ByteArray) (w : World) (hR : ArrayOf w r nm) :
    Calls Tryz.prog 32 #[.iface 111 (.pointer (some ⟨r, 0, none⟩))] w fun e w' => ∃ g, e = .returned (.tuple #[(Value.agg #[Value.string ⟨#[97, 114, 114, 97, 121]⟩, Value.string ⟨#[]⟩, Value.string ⟨#[]⟩, Value.slice none 0 0, Value.slice (some (Addr.mk g 0 none)) 1 1]), .bool true]) ∧ Below w.heap.size w w' ∧ w.heap.size ≤ g ∧ w'.heap[g]? = some (.cells (#[Value.string ⟨#[115, 105, 109, 112, 108, 101]⟩, Value.string nm, Value.string ⟨#[]⟩, Value.slice none 0 0, Value.slice none 0 0]) 34 (0, 0)) := by
  obtain ⟨a, g, r1, hR, hS⟩ := hR
  have h1 : ∀ o, (w.alloc o).cell? ⟨r, 2, none⟩ = some (.iface 107 (.pointer (some ⟨r1, 0, none⟩))) := fun o => (blk_cell (blk_alloc hR o) 2).trans rfl
  have h2 := ta111
  have h3 := ta111n
  have B0 := blk_new w (.cells #[.string ⟨#[]⟩, .string ⟨#[]⟩, .string ⟨#[]⟩, .slice none 0 0, .slice none 0 0] 34)
  go_enter Tryz.func32, Tryz.ntmps32
  go_wp2_with (first
    | (go_at_call 32; (with_reducible refine (readSimple_c r1 nm _ (hS.alloc _)).mono ?_); rintro e w1 ⟨rfl, hb1⟩; have B1 := blk_below B0 hb1;
       have q0 : ∀ A B, ((w1.alloc A).alloc B).cell? ⟨w.heap.size, 0, none⟩ = some (.string ⟨#[]⟩) := (fun A B => (blk_cell (blk_alloc (blk_alloc B1 A) B) 0).trans rfl); have q1 : ∀ A B, ((w1.alloc A).alloc B).cell? ⟨w.heap.size, 1, none⟩ = some (.string ⟨#[]⟩) := (fun A B => (blk_cell (blk_alloc (blk_alloc B1 A) B) 1).trans rfl); have q2 : ∀ A B, ((w1.alloc A).alloc B).cell? ⟨w.heap.size, 2, none⟩ = some (.string ⟨#[]⟩) := (fun A B => (blk_cell (blk_alloc (blk_alloc B1 A) B) 2).trans rfl); have q3 : ∀ A B, ((w1.alloc A).alloc B).cell? ⟨w.heap.size, 3, none⟩ = some (.slice none 0 0) := (fun A B => (blk_cell (blk_alloc (blk_alloc B1 A) B) 3).trans rfl); have q4 : ∀ A B, ((w1.alloc A).alloc B).cell? ⟨w.heap.size, 4, none⟩ = some (.slice none 0 0) := (fun A B => (blk_cell (blk_alloc (blk_alloc B1 A) B) 4).trans rfl); 
       have qf : ∀ A B i, ((w1.alloc A).alloc B).frozen? ⟨w.heap.size, i, none⟩ = false := (fun A B i => blk_frozen (blk_alloc (blk_alloc B1 A) B) i)))
  (try simp only [Exit.inBlock, Exit.then])
  have C1 := blk_alloc (blk_alloc B1 (.cells (#[Value.string ⟨#[115, 105, 109, 112, 108, 101]⟩, Value.string nm, Value.string ⟨#[]⟩, Value.slice none 0 0, Value.slice none 0 0]) 34)) (.cells (#[Value.string ⟨#[115, 105, 109, 112, 108, 101]⟩, Value.string nm, Value.string ⟨#[]⟩, Value.slice none 0 0, Value.slice none 0 0]) 34)
  have C2 := blk_put (blk_put (blk_put (blk_put (blk_put C1 0 (.string ⟨#[97, 114, 114, 97, 121]⟩) rfl) 1 (.string ⟨#[]⟩) rfl) 2 (.string ⟨#[]⟩) rfl) 3 (.slice none 0 0) rfl) 4 (.slice (some ⟨w1.heap.size + 1, 0, none⟩) 1 1) rfl
  refine bodyPost_ret (results_ct rfl _ _ w.heap.size 34 _ (0, 0) _ rfl C2 Tryz.underlying34 rfl rfl) rfl ?_
  have hs := hb1.size
  have e0 : ∀ o, (w.alloc o).heap.size = w.heap.size + 1 := by intro o; simp [go_sem]
  rw [e0] at hs
  have e1 : ∀ o, (w1.alloc o).heap.size = w1.heap.size + 1 := by intro o; simp [go_sem]
  have D := blk_new (w1.alloc (.cells (#[Value.string ⟨#[115, 105, 109, 112, 108, 101]⟩, Value.string nm, Value.string ⟨#[]⟩, Value.slice none 0 0, Value.slice none 0 0]) 34)) (.cells (#[Value.string ⟨#[115, 105, 109, 112, 108, 101]⟩, Value.string nm, Value.string ⟨#[]⟩, Value.slice none 0 0, Value.slice none 0 0]) 34)
  rw [e1] at D
  have hf : ∀ i, w1.heap.size + 1 ≠ (⟨w.heap.size, i, none⟩ : Addr).block := by intro i; show w1.heap.size + 1 ≠ w.heap.size; omega
  have hB : Below w.heap.size w w1 := below_weaken (below_alloc (Below.refl _ _) _) (by rw [e0]; omega) hb1
  refine ⟨w1.heap.size + 1, rfl, below_set (below_set (below_set (below_set (below_set (below_alloc (below_alloc hB _) _) ?_) ?_) ?_) ?_) ?_, by omega, blk_far (blk_far (blk_far (blk_far (blk_far D (hf 0) _) (hf 1) _) (hf 2) _) (hf 3) _) (hf 4) _⟩
  all_goals exact Nat.le_refl _
end Go.Proofs.YtjepdlmcombmcaaGreatDoor.Lx
