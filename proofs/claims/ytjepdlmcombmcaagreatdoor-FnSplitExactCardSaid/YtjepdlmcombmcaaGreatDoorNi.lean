/- Faults: what the lexer's error makers leave. Conditions: the lexer's state; the places lie in the text. -/
import Derived.Test.YtjepdlmcombmcaaGreatDoorNh
import Derived.Test.YtjepdlmcombmcaaGreatDoorGb
namespace Go.Proofs.YtjepdlmcombmcaaGreatDoor.Lx
open Go.RowKit Go.Proofs.YtjepdlmcombmcaaGreatDoorW.PrintWords

/-- Of what was there, nothing but the blocks b and fb has changed. -/
structure Ups2 (b fb : Nat) (w w' : World) : Prop where
  os : w'.os = w.os
  tape : w'.tape = w.tape
  output : w'.output = w.output
  size : w.heap.size ≤ w'.heap.size
  block : ∀ k, k < w.heap.size → k ≠ b → k ≠ fb → w'.heap[k]? = w.heap[k]?
theorem Ups.two {b : Nat} {w w' : World} (h : Ups b w w') (fb : Nat) : Ups2 b fb w w' := ⟨h.os, h.tape, h.output, h.size, fun k hk hn _ => h.block k hk hn⟩
theorem Ups.two' {fb : Nat} {w w' : World} (h : Ups fb w w') (b : Nat) : Ups2 b fb w w' := ⟨h.os, h.tape, h.output, h.size, fun k hk _ hn => h.block k hk hn⟩
theorem Ups2.trans {b fb : Nat} {u v w : World} (h : Ups2 b fb u v) (k : Ups2 b fb v w) : Ups2 b fb u w :=
  ⟨k.os.trans h.os, k.tape.trans h.tape, k.output.trans h.output, Nat.le_trans h.size k.size, fun i hi hn hn' => (k.block i (Nat.lt_of_lt_of_le hi h.size) hn hn').trans (h.block i hi hn hn')⟩
theorem Ups2.obj {b fb k : Nat} {u w : World} {o : Obj} (h : Ups2 b fb u w) (hk : u.heap[k]? = some o) (hn : k ≠ b) (hn' : k ≠ fb) : w.heap[k]? = some o := (h.block k (blk_lt hk) hn hn').trans hk
theorem Ups2.drewN {b fb : Nat} {u w : World} (h : Ups2 b fb u w) (n : Nat) : Ups2 b fb u (w.drewN n) := ⟨h.os, h.tape, h.output, h.size, h.block⟩
theorem Ups2.alloc {b fb : Nat} {u w : World} (h : Ups2 b fb u w) (o : Obj) : Ups2 b fb u (w.alloc o) := h.trans (((Ups.refl b w).alloc o).two fb)
/-- The lexer at block b, over a file that holds no lines yet, in a world in which the table of powers lies. -/
structure Lx0 (w : World) (b fb : Nat) (s : ByteArray) (x : St) : Prop where
  l : IsL w b fb x
  f : IsF0 w fb s
  t : Pow10 w
section
variable {w w' : World} {b fb : Nat} {s : ByteArray} {x y : St}
theorem Lx0.isF (h : Lx0 w b fb s x) : IsF w fb s := h.f.isF
theorem Lx0.ne (h : Lx0 w b fb s x) : fb ≠ b := h.isF.ne h.l
theorem Lx0.at_ (h : Lx0 w b fb s x) : At w b fb s x.pos := h.l.at_ h.isF
theorem Lx0.step (h : Lx0 w b fb s x) (hU : Ups b w w') (hL : IsL w' b fb y) : Lx0 w' b fb s y := by
  obtain ⟨path, hf⟩ := h.f
  exact ⟨hL, ⟨path, hU.obj hf h.ne⟩, h.t.ups hU ⟨_, h.l⟩ (fun z => by simp)⟩
theorem Lx0.drewN (h : Lx0 w b fb s x) (n : Nat) : Lx0 (w.drewN n) b fb s x := h.step ((Ups.refl b w).drewN n) (h.l.drewN n)
end
/-- A fault is told: the panic holds an *Error, and only the lexer and its file have changed. -/
def Fails (b fb : Nat) (w : World) (e : Ending) (w' : World) : Prop :=
  (∃ g, e = .panicked [{ v := .iface 86 (.pointer (some ⟨g, 0, none⟩)), recovered := false }]) ∧ Ups2 b fb w w'

set_option maxRecDepth 100000 in
theorem errAt_c (b fb : Nat) (s : ByteArray) (x : St) (p q : Int) (msg : ByteArray) (w : World) (h : Lx0 w b fb s x) (hs : (s.size : Int) ≤ 5000) (hp0 : 0 ≤ p) (hpq : p ≤ q) (hq : q ≤ (s.size : Int)) :
    Calls Tryz.prog 113 #[.pointer (some ⟨b, 0, none⟩), .int .i64 p, .int .i64 q, .string msg] w fun e w' => (∃ g, e = .returned (.pointer (some ⟨g, 0, none⟩))) ∧ Ups2 b fb w w' := by
  have c0 := h.l.c0
  have hFo : FileOk w fb w.heap.size s := .inl h.f
  have hT := h.t
  go_enter Tryz.func113, Tryz.ntmps113
  go_wp2_with (first
    | (go_at_call 104; (with_reducible refine (position_c fb w.heap.size s p q _ hFo (Nat.le_refl _) hs hp0 hpq hq hT).mono ?_); rintro e w1 ⟨⟨g, rfl, hg⟩, hU⟩))
  go_ret
  exact ⟨⟨_, rfl⟩, (hU.two' b).alloc _⟩
theorem panicAt_c (b fb : Nat) (s : ByteArray) (x : St) (p q : Int) (msg : ByteArray) (w : World) (h : Lx0 w b fb s x) (hs : (s.size : Int) ≤ 5000) (hp0 : 0 ≤ p) (hpq : p ≤ q) (hq : q ≤ (s.size : Int)) :
    Calls Tryz.prog 107 #[.pointer (some ⟨b, 0, none⟩), .int .i64 p, .int .i64 q, .string msg] w (Fails b fb w) := by
  go_enter Tryz.func107, Tryz.ntmps107
  go_wp2_with (first
    | (go_at_call 113; (with_reducible refine (errAt_c b fb s x p q msg _ h hs hp0 hpq hq).mono ?_); rintro e w1 ⟨⟨g, rfl⟩, hU⟩))
  exact ⟨rfl, ⟨g, rfl⟩, hU⟩
set_option maxRecDepth 100000 in
theorem errf_c (b fb : Nat) (s : ByteArray) (x : St) (msg : ByteArray) (w : World) (h : Lx0 w b fb s x) (hs : (s.size : Int) ≤ 5000) (hp0 : 0 ≤ x.pos) (hp1 : x.pos ≤ (s.size : Int)) :
    Calls Tryz.prog 91 #[.pointer (some ⟨b, 0, none⟩), .string msg] w fun e w' => (∃ g, e = .returned (.pointer (some ⟨g, 0, none⟩))) ∧ Ups2 b fb w w' := by
  have c0 := h.l.c0
  have hFo : FileOk w fb w.heap.size s := .inl h.f
  have hT := h.t
  have c9 := h.l.c9
  have G0 : w.drew.cell? ⟨b, 0, none⟩ = some (.pointer (some ⟨fb, 0, none⟩)) := c0
  have G9 : w.drew.cell? ⟨b, 9, none⟩ = some (.int .i64 x.pos) := c9
  have hFo : FileOk w.drew fb w.drew.heap.size s := .inl h.f
  have hT : Pow10 w.drew := h.t.drewN 1
  go_enter Tryz.func91, Tryz.ntmps91
  go_wp2
  go_region_held3 (fun w' => w'.cell? ⟨b, 0, none⟩ = some (.pointer (some ⟨fb, 0, none⟩)) ∧ w'.cell? ⟨b, 9, none⟩ = some (.int .i64 x.pos))
    (first | go_keep | (go_split_ands; exact ⟨(blk_cell (hU.obj h.l (Ne.symm h.ne)) 0).trans rfl, (blk_cell (hU.obj h.l (Ne.symm h.ne)) 9).trans rfl⟩))
    (first | (go_at_call 104; refine (position_c fb w.drew.heap.size s x.pos x.pos _ hFo (Nat.le_refl _) hs hp0 (Int.le_refl _) hp1 hT).mono ?_; rintro e w1 ⟨⟨g, rfl, hg⟩, hU⟩))
  go_wp2
  go_ret
  exact ⟨⟨_, rfl⟩, ((((Ups.refl fb w).drew).trans hU).two' b).alloc _⟩
theorem panicf_c (b fb : Nat) (s : ByteArray) (x : St) (msg : ByteArray) (w : World) (h : Lx0 w b fb s x) (hs : (s.size : Int) ≤ 5000) (hp0 : 0 ≤ x.pos) (hp1 : x.pos ≤ (s.size : Int)) :
    Calls Tryz.prog 109 #[.pointer (some ⟨b, 0, none⟩), .string msg] w (Fails b fb w) := by
  go_enter Tryz.func109, Tryz.ntmps109
  go_wp2_with (first
    | (go_at_call 91; (with_reducible refine (errf_c b fb s x msg _ h hs hp0 hp1).mono ?_); rintro e w1 ⟨⟨g, rfl⟩, hU⟩))
  exact ⟨rfl, ⟨g, rfl⟩, hU⟩
end Go.Proofs.YtjepdlmcombmcaaGreatDoor.Lx
