/- NextToken: what it returns and leaves. Conditions: the lexer's state; the text is such as is told. -/
import Derived.Test.YtjepdlmcombmcaaGreatDoorQg
import Derived.Defers
import Derived.Recover
namespace Go.Proofs.YtjepdlmcombmcaaGreatDoor.Lx
open Go.RowKit Go.Proofs.YtjepdlmcombmcaaGreatDoorW.PrintWords

theorem idle33 (a1 : Value) (w : World) :
    CallsD Tryz.prog 33 #[a1] .returning w fun e u' w' => e = .returned (.tuple #[]) ∧ u' = .returning ∧ w' = w := by
  refine callsD_of_wpS Tryz.func33 rfl fun c₀ cs hu => ?_
  apply wpS_seq
  apply wpS_region
  simp [wpOpsS, go_sem, recoverD, hu, Tryz.ntmps33, Exit.thenS]
  apply wpS_seq
  apply wpS_region
  simp [wpOpsS, go_sem, Exit.thenS]
  refine wpS_cond (t := false) (by simp [Act.eval, Array.replicate]) ?_
  simp only [Bool.false_eq_true, if_false]
  refine wpS_of_wp (wp_skip ?_)
  cases c₀
  simp_all [bodyPostS, results, Tryz.results33]
theorem ta86 (v : Value) (w : World) : (Instr.typeAssert (.iface 86 v) 20 86 true).run Tryz.prog w = .ok (.tuple #[v, .bool true]) w := by
  simp [Instr.typeAssert, run_underlying Tryz.underlying86, go_sem, Result.andThen]
set_option maxRecDepth 100000 in
theorem catch33 (er : Nat) (g : Nat) (w : World) (hc : w.cell? ⟨er, 0, none⟩ = some .nilIface) (hz : w.frozen? ⟨er, 0, none⟩ = false) :
    CallsD Tryz.prog 33 #[.pointer (some ⟨er, 0, none⟩)] (.panicking [{ v := .iface 86 (.pointer (some ⟨g, 0, none⟩)), recovered := false }]) w fun e u' w' =>
      e = .returned (.tuple #[]) ∧ u' = .panicking [{ v := .iface 86 (.pointer (some ⟨g, 0, none⟩)), recovered := true }] ∧ w' = w.setCell ⟨er, 0, none⟩ (.iface 86 (.pointer (some ⟨g, 0, none⟩))) := by
  refine callsD_of_wpS Tryz.func33 rfl fun c₀ cs hu => ?_
  apply wpS_seq
  apply wpS_region
  simp [wpOpsS, go_sem, recoverD, hu, Tryz.ntmps33, Exit.thenS]
  apply wpS_seq
  apply wpS_region
  simp [wpOpsS, go_sem, Exit.thenS]
  refine wpS_cond (t := true) (by simp [Act.eval, Array.replicate]) ?_
  simp only [if_true]
  have hta := ta86
  refine wpS_of_wp ?_
  show Code.wp Tryz.prog _ _ { tmps := #[.pointer (some ⟨er, 0, none⟩), .iface 86 (.pointer (some ⟨g, 0, none⟩)), undef, undef, .iface 86 (.pointer (some ⟨g, 0, none⟩)), .iface 86 (.pointer (some ⟨g, 0, none⟩)), .bool true, undef, undef, undef, undef, undef, undef, undef, undef, undef], defers := [] } w
  go_wp2
  cases c₀
  simp_all [bodyPostS, results, Tryz.results33]
/-- What NextToken leaves. -/
def NextE (b fb : Nat) (last : Kd) (r : Option Tk) (w : World) (e : Ending) (w' : World) : Prop :=
  match r with
  | some t => e = .returned .nilIface ∧ Ups b w w' ∧ ∃ y n B, w.heap.size ≤ B ∧ IsL w' b fb y ∧ kd y.kind.toList = t.kd ∧ y.tp = t.pos ∧ y.pos = t.e ∧ y.dot = dotOf last t.kd ∧ ComAt w' B y.com n t.com
  | none => (∃ g, e = .returned (.iface 86 (.pointer (some ⟨g, 0, none⟩)))) ∧ Ups2 b fb w w'
theorem Ups2.obj' {b fb : Nat} {u w : World} (h : Ups2 b fb u w) {k : Nat} {o : Obj} (hk : u.heap[k]? = some o) (hn : k ≠ b) (hn' : k ≠ fb) : w.heap[k]? = some o := h.obj hk hn hn'
set_option maxRecDepth 100000 in
theorem nextToken_c (w : World) (b fb : Nat) (x : St) (s : ByteArray) (h : Lx0 w b fb s x) (hT : Txt s) (hp0 : 0 ≤ x.pos) (hp1 : x.pos ≤ (s.size : Int)) (hdot : x.dot = true → kd x.kind.toList = .dot) (hTok : TokOk b fb s) :
    Calls Tryz.prog 23 #[.pointer (some ⟨b, 0, none⟩)] w (NextE b fb (kd x.kind.toList) (step s (kd x.kind.toList) x.dot x.pos) w) := by
  have hmf : ∀ (fn : Fn) (first cap : Array Value) (w : World), (Instr.makeFunc fn first cap).run Tryz.prog w = .ok (.func fn first cap) w := fun _ _ _ _ => rfl
  have hU0 : Ups b w (w.alloc (.cells #[.nilIface] 56)) := (Ups.refl b w).alloc _
  have hX : Lx0 (w.alloc (.cells #[.nilIface] 56)) b fb s x := h.step hU0 (h.l.alloc _)
  have hbl := h.l.lt
  have hfl : fb < w.heap.size := by
    obtain ⟨path, hf⟩ := h.f
    exact blk_lt hf
  have hE : (w.alloc (.cells #[.nilIface] 56)).heap[w.heap.size]? = some (.cells #[.nilIface] 56 (0, 0)) := blk_new w _
  have hsz : (w.alloc (.cells #[.nilIface] 56)).heap.size = w.heap.size + 1 := by simp
  cases hR : step s (kd x.kind.toList) x.dot x.pos with
  | some t =>
    have HR := Aside0.mk hR
    clear hR
    go_enter_defers Tryz.func23, Tryz.ntmps23
    go_wp2_with (first | (go_at_call 34; (with_reducible refine (next_c _ b fb x s hX hT hp0 hp1 hdot hTok).mono ?_); rintro e w1 hn; rw [HR.out] at hn; obtain ⟨rfl, hU1, hn⟩ := hn))
    refine leaves_cons (f := 33) (args := #[.pointer (some ⟨w.heap.size, 0, none⟩)]) (by simp) (by simp [go_sem]) ?_
    refine (idle33 _ _).mono ?_
    rintro e u' w'' ⟨rfl, rfl, rfl⟩
    have F3 : w''.cell? ⟨w.heap.size, 0, none⟩ = some .nilIface := (blk_cell (hU1.obj hE (by omega)) 0).trans rfl
    simp [Leaves, settle, results, Tryz.results23, go_sem, F3]
    obtain ⟨y, n, h1, h2, h3, h4, h5, h6⟩ := hn
    exact ⟨rfl, hU0.trans hU1, y, n, _, by rw [hsz]; omega, h1, h2, h3, h4, h5, h6⟩
  | none =>
    have HR := Aside0.mk hR
    clear hR
    go_enter_defers Tryz.func23, Tryz.ntmps23
    go_wp2_with (first | (go_at_call 34; (with_reducible refine (next_c _ b fb x s hX hT hp0 hp1 hdot hTok).mono ?_); rintro e w1 hn; rw [HR.out] at hn; obtain ⟨⟨g, rfl⟩, hU1⟩ := hn))
    have E3 := hU1.obj hE (by omega) (by omega)
    refine leaves_cons (f := 33) (args := #[.pointer (some ⟨w.heap.size, 0, none⟩)]) (by simp) (by simp [go_sem]) ?_
    refine (catch33 w.heap.size g w1 ((blk_cell E3 0).trans rfl) (blk_frozen E3 0)).mono ?_
    rintro e u' w'' ⟨rfl, rfl, rfl⟩
    have F3 : (w1.setCell ⟨w.heap.size, 0, none⟩ (.iface 86 (.pointer (some ⟨g, 0, none⟩)))).cell? ⟨w.heap.size, 0, none⟩ = some (.iface 86 (.pointer (some ⟨g, 0, none⟩))) := (blk_cell (blk_set E3 0 _) 0).trans rfl
    simp [Leaves, settle, results, Tryz.results23, go_sem, F3]
    have hU : Ups2 b fb w w1 := (hU0.two fb).trans hU1
    exact ⟨⟨g, rfl⟩, hU.os, hU.tape, hU.output, by simpa [World.setCell] using hU.size, fun k hk hn hn' => (Below.heap_setCell _ _ _ _ (by show k ≠ w.heap.size; omega)).trans (hU.block k hk hn hn')⟩
end Go.Proofs.YtjepdlmcombmcaaGreatDoor.Lx
