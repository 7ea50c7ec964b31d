/- The lexer's state as a record, and what stays as it was; where runs of bytes end. Plain words, no walk. -/
import Derived.Test.YtjepdlmcombmcaaGreatDoorLb
namespace Go.Proofs.YtjepdlmcombmcaaGreatDoor.Lx
open Go.RowKit Go.Proofs.YtjepdlmcombmcaaGreatDoorW.PrintWords

/-! ### where a run ends -/
def scanTo (Q : Int → Bool) (n : Int) : Nat → Int → Int
  | 0, i => i
  | k + 1, i => if i < n then (if Q i = true then scanTo Q n k (i + 1) else i) else i
/-- The first place from i on, below n, at which Q does not hold; n if there is none. -/
def upto (Q : Int → Bool) (n i : Int) : Int := scanTo Q n (n - i).toNat i
theorem upto_step {Q : Int → Bool} {n i : Int} (h : i < n) (hq : Q i = true) : upto Q n i = upto Q n (i + 1) := by
  unfold upto
  obtain ⟨k, hk⟩ : ∃ k, (n - i).toNat = k + 1 := ⟨(n - i).toNat - 1, by omega⟩
  rw [hk, show (n - (i + 1)).toNat = k by omega]
  simp only [scanTo]
  rw [if_pos h, if_pos hq]
theorem upto_stop {Q : Int → Bool} {n i : Int} (hq : Q i = false) : upto Q n i = i := by
  unfold upto
  cases (n - i).toNat with
  | zero => rfl
  | succ k =>
    simp only [scanTo]
    split
    · rw [if_neg (by rw [hq]; decide)]
    · rfl
theorem upto_end {Q : Int → Bool} {n i : Int} (h : n ≤ i) : upto Q n i = i := by
  unfold upto
  rw [show (n - i).toNat = 0 by omega]
  rfl
theorem scanTo_range (Q : Int → Bool) (n : Int) : ∀ (k : Nat) (i : Int), i ≤ scanTo Q n k i ∧ (i ≤ n → scanTo Q n k i ≤ n)
  | 0, i => ⟨Int.le_refl _, fun h => h⟩
  | k + 1, i => by
    simp only [scanTo]
    split
    · split
      · have := scanTo_range Q n k (i + 1)
        exact ⟨by omega, fun _ => this.2 (by omega)⟩
      · exact ⟨Int.le_refl _, fun h => h⟩
    · exact ⟨Int.le_refl _, fun h => h⟩
theorem upto_ge (Q : Int → Bool) (n i : Int) : i ≤ upto Q n i := (scanTo_range Q n _ i).1
theorem upto_le {Q : Int → Bool} {n i : Int} (h : i ≤ n) : upto Q n i ≤ n := (scanTo_range Q n _ i).2 h
/-- The run of the bytes of a kind. -/
def run (p : Int → Bool) (s : ByteArray) (i : Int) : Int := upto (fun j => p (bt s j)) (s.size : Int) i
theorem run_step {p : Int → Bool} {s : ByteArray} {i : Int} (h : i < (s.size : Int)) (hq : p (bt s i) = true) : run p s i = run p s (i + 1) := upto_step (Q := fun j => p (bt s j)) h hq
theorem run_stop {p : Int → Bool} {s : ByteArray} {i : Int} (hq : p (bt s i) = false) : run p s i = i := upto_stop (Q := fun j => p (bt s j)) hq
theorem run_end {p : Int → Bool} {s : ByteArray} {i : Int} (h : (s.size : Int) ≤ i) : run p s i = i := upto_end h
theorem run_ge (p : Int → Bool) (s : ByteArray) (i : Int) : i ≤ run p s i := upto_ge _ _ _
theorem run_le {p : Int → Bool} {s : ByteArray} {i : Int} (h : i ≤ (s.size : Int)) : run p s i ≤ (s.size : Int) := upto_le h

/-- All bytes of a text are below 128. -/
def Ascii (s : ByteArray) : Prop := ∀ i : Int, 0 ≤ i → i < (s.size : Int) → bt s i < 128

/-! ### what stays -/
/-- Of what was there, nothing but block b has changed. -/
structure Ups (b : Nat) (w w' : World) : Prop where
  os : w'.os = w.os
  tape : w'.tape = w.tape
  output : w'.output = w.output
  size : w.heap.size ≤ w'.heap.size
  block : ∀ k, k < w.heap.size → k ≠ b → w'.heap[k]? = w.heap[k]?
theorem Ups.refl (b : Nat) (w : World) : Ups b w w := ⟨rfl, rfl, rfl, Nat.le_refl _, fun _ _ _ => rfl⟩
theorem Ups.trans {b : Nat} {u v w : World} (h : Ups b u v) (k : Ups b v w) : Ups b u w :=
  ⟨k.os.trans h.os, k.tape.trans h.tape, k.output.trans h.output, Nat.le_trans h.size k.size, fun i hi hn => (k.block i (Nat.lt_of_lt_of_le hi h.size) hn).trans (h.block i hi hn)⟩
theorem Ups.drewN {b : Nat} {u w : World} (h : Ups b u w) (n : Nat) : Ups b u (w.drewN n) := ⟨h.os, h.tape, h.output, h.size, h.block⟩
theorem Ups.drew {b : Nat} {u w : World} (h : Ups b u w) : Ups b u w.drew := ⟨h.os, h.tape, h.output, h.size, h.block⟩
theorem Ups.below {b : Nat} {u v w : World} (h : Ups b u v) (k : Below v.heap.size v w) : Ups b u w :=
  ⟨k.os.trans h.os, k.tape.trans h.tape, k.output.trans h.output, Nat.le_trans h.size k.size, fun i hi hn => (k.block i (Nat.lt_of_lt_of_le hi h.size)).trans (h.block i hi hn)⟩
theorem Ups.alloc {b : Nat} {u w : World} (h : Ups b u w) (o : Obj) : Ups b u (w.alloc o) := h.below (below_alloc (Below.refl _ _) o)
theorem Ups.setCell {b : Nat} {u w : World} (h : Ups b u w) {p : Addr} (hp : p.block = b ∨ u.heap.size ≤ p.block) (x : Value) : Ups b u (w.setCell p x) :=
  ⟨h.os, h.tape, h.output, by simpa [World.setCell] using h.size, fun i hi hn => (Below.heap_setCell w p x i (by rcases hp with hp | hp <;> omega)).trans (h.block i hi hn)⟩
theorem Ups.set {b : Nat} {u w : World} (h : Ups b u w) (i : Nat) (x : Value) : Ups b u (w.setCell ⟨b, i, none⟩ x) := h.setCell (.inl rfl) x
theorem Ups.to_below {b B : Nat} {u w : World} (h : Ups b u w) (hb : B ≤ b) (hB : B ≤ u.heap.size) : Below B u w :=
  ⟨h.os, h.tape, h.output, h.size, fun k hk => h.block k (by omega) (by omega)⟩
theorem Ups.obj {b k : Nat} {u w : World} {o : Obj} (h : Ups b u w) (hk : u.heap[k]? = some o) (hn : k ≠ b) : w.heap[k]? = some o := (h.block k (blk_lt hk) hn).trans hk

/-! ### the lexer -/
structure St where
  kind : ByteArray
  com : Value
  space : ByteArray
  raw : ByteArray
  txt : ByteArray
  base : Int
  tp : Int
  te : Int
  pos : Int
  last : ByteArray
  dot : Bool
def St.cells (fb : Nat) (x : St) : Array Value :=
  #[.pointer (some ⟨fb, 0, none⟩), .string x.kind, x.com, .string x.space, .string x.raw, .string x.txt, .int .i64 x.base, .int .i64 x.tp, .int .i64 x.te, .int .i64 x.pos, .string x.last, .bool x.dot]
/-- The lexer at block b is in the state x. -/
def IsL (w : World) (b fb : Nat) (x : St) : Prop := w.heap[b]? = some (.cells (x.cells fb) 67 (0, 0))
/-- The file at block fb holds the text s. -/
def IsF (w : World) (fb : Nat) (s : ByteArray) : Prop := ∃ path lines, w.heap[fb]? = some (.cells #[.string path, .string s, lines] 85 (0, 0))
section
variable {w : World} {b fb : Nat} {x : St} {s : ByteArray}
theorem IsL.c0 (h : IsL w b fb x) : w.cell? ⟨b, 0, none⟩ = some (.pointer (some ⟨fb, 0, none⟩)) := (blk_cell h 0).trans rfl
theorem IsL.c1 (h : IsL w b fb x) : w.cell? ⟨b, 1, none⟩ = some (.string x.kind) := (blk_cell h 1).trans rfl
theorem IsL.c2 (h : IsL w b fb x) : w.cell? ⟨b, 2, none⟩ = some x.com := (blk_cell h 2).trans rfl
theorem IsL.c3 (h : IsL w b fb x) : w.cell? ⟨b, 3, none⟩ = some (.string x.space) := (blk_cell h 3).trans rfl
theorem IsL.c4 (h : IsL w b fb x) : w.cell? ⟨b, 4, none⟩ = some (.string x.raw) := (blk_cell h 4).trans rfl
theorem IsL.c5 (h : IsL w b fb x) : w.cell? ⟨b, 5, none⟩ = some (.string x.txt) := (blk_cell h 5).trans rfl
theorem IsL.c6 (h : IsL w b fb x) : w.cell? ⟨b, 6, none⟩ = some (.int .i64 x.base) := (blk_cell h 6).trans rfl
theorem IsL.c7 (h : IsL w b fb x) : w.cell? ⟨b, 7, none⟩ = some (.int .i64 x.tp) := (blk_cell h 7).trans rfl
theorem IsL.c8 (h : IsL w b fb x) : w.cell? ⟨b, 8, none⟩ = some (.int .i64 x.te) := (blk_cell h 8).trans rfl
theorem IsL.c9 (h : IsL w b fb x) : w.cell? ⟨b, 9, none⟩ = some (.int .i64 x.pos) := (blk_cell h 9).trans rfl
theorem IsL.c10 (h : IsL w b fb x) : w.cell? ⟨b, 10, none⟩ = some (.string x.last) := (blk_cell h 10).trans rfl
theorem IsL.c11 (h : IsL w b fb x) : w.cell? ⟨b, 11, none⟩ = some (.bool x.dot) := (blk_cell h 11).trans rfl
theorem IsL.free (h : IsL w b fb x) (i : Nat) : w.frozen? ⟨b, i, none⟩ = false := blk_frozen h i
theorem IsL.lt (h : IsL w b fb x) : b < w.heap.size := blk_lt h
theorem IsL.drewN (h : IsL w b fb x) (n : Nat) : IsL (w.drewN n) b fb x := h
theorem IsL.drew (h : IsL w b fb x) : IsL w.drew b fb x := h
theorem IsL.alloc (h : IsL w b fb x) (o : Obj) : IsL (w.alloc o) b fb x := blk_alloc h o
theorem IsL.below {w1 : World} (h : IsL w b fb x) (hb : Below w.heap.size w w1) : IsL w1 b fb x := blk_below h hb
theorem IsL.far (h : IsL w b fb x) {p : Addr} (hp : b ≠ p.block) (u : Value) : IsL (w.setCell p u) b fb x := blk_far h hp u
theorem IsL.set1 (h : IsL w b fb x) (v : ByteArray) : IsL (w.setCell ⟨b, 1, none⟩ (.string v)) b fb { x with kind := v } := (blk_set h 1 _).trans rfl
theorem IsL.set2 (h : IsL w b fb x) (v : Value) : IsL (w.setCell ⟨b, 2, none⟩ v) b fb { x with com := v } := (blk_set h 2 _).trans rfl
theorem IsL.set3 (h : IsL w b fb x) (v : ByteArray) : IsL (w.setCell ⟨b, 3, none⟩ (.string v)) b fb { x with space := v } := (blk_set h 3 _).trans rfl
theorem IsL.set4 (h : IsL w b fb x) (v : ByteArray) : IsL (w.setCell ⟨b, 4, none⟩ (.string v)) b fb { x with raw := v } := (blk_set h 4 _).trans rfl
theorem IsL.set5 (h : IsL w b fb x) (v : ByteArray) : IsL (w.setCell ⟨b, 5, none⟩ (.string v)) b fb { x with txt := v } := (blk_set h 5 _).trans rfl
theorem IsL.set6 (h : IsL w b fb x) (v : Int) : IsL (w.setCell ⟨b, 6, none⟩ (.int .i64 v)) b fb { x with base := v } := (blk_set h 6 _).trans rfl
theorem IsL.set7 (h : IsL w b fb x) (v : Int) : IsL (w.setCell ⟨b, 7, none⟩ (.int .i64 v)) b fb { x with tp := v } := (blk_set h 7 _).trans rfl
theorem IsL.set8 (h : IsL w b fb x) (v : Int) : IsL (w.setCell ⟨b, 8, none⟩ (.int .i64 v)) b fb { x with te := v } := (blk_set h 8 _).trans rfl
theorem IsL.set9 (h : IsL w b fb x) (v : Int) : IsL (w.setCell ⟨b, 9, none⟩ (.int .i64 v)) b fb { x with pos := v } := (blk_set h 9 _).trans rfl
theorem IsL.set10 (h : IsL w b fb x) (v : ByteArray) : IsL (w.setCell ⟨b, 10, none⟩ (.string v)) b fb { x with last := v } := (blk_set h 10 _).trans rfl
theorem IsL.set11 (h : IsL w b fb x) (v : Bool) : IsL (w.setCell ⟨b, 11, none⟩ (.bool v)) b fb { x with dot := v } := (blk_set h 11 _).trans rfl
theorem IsF.buf (h : IsF w fb s) : w.cell? ⟨fb, 1, none⟩ = some (.string s) := by
  obtain ⟨path, lines, h⟩ := h
  exact (blk_cell h 1).trans rfl
theorem IsF.drewN (h : IsF w fb s) (n : Nat) : IsF (w.drewN n) fb s := h
theorem IsF.ne (h : IsF w fb s) (hL : IsL w b fb x) : fb ≠ b := by
  obtain ⟨path, lines, h⟩ := h
  exact blk_ne h hL (by decide)
theorem IsF.ups {w1 : World} (h : IsF w fb s) (hu : Ups b w w1) (hn : fb ≠ b) : IsF w1 fb s := by
  obtain ⟨path, lines, h⟩ := h
  exact ⟨path, lines, hu.obj h hn⟩
theorem IsL.at_ (h : IsL w b fb x) (hF : IsF w fb s) : At w b fb s x.pos := ⟨h.c0, h.c9, hF.buf⟩
end

/-! ### a call inside a region that is walked quietly -/
theorem quiet1 {P : Program} {f : FuncId} {args : Array Value} {W : World} {v : Value} {Q : World → Prop} (h : Calls P f args W fun e w' => e = .returned v ∧ w' = W) (hq : Q W) :
    Calls P f args W fun e w'' => e = .returned v ∧ Q w'' := h.mono fun _ _ ⟨he, hw⟩ => ⟨he, hw ▸ hq⟩
theorem quiet2 {P : Program} {f : FuncId} {args : Array Value} {W : World} {v : Value} {Q : World → Prop} (h : Calls P f args W fun e w' => e = .returned v ∧ Drawn0 W w') (hq : ∀ m, Q (W.drewN m)) :
    Calls P f args W fun e w'' => e = .returned v ∧ Q w'' := h.mono fun _ _ ⟨he, ⟨⟨m, hw⟩⟩⟩ => ⟨he, hw ▸ hq m⟩
theorem drewN_add (w : World) (k a m : Nat) : (w.drewN (k + a)).drewN m = w.drewN (k + (a + m)) := by rw [World.drewN_drewN, Nat.add_assoc]
end Go.Proofs.YtjepdlmcombmcaaGreatDoor.Lx
