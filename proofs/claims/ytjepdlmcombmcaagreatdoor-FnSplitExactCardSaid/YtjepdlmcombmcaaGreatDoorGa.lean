/- Steps of a walk that leave the world, told shortly. No conditions. -/
import Derived.WalkKit
import Derived.Tactics
import Derived.Test.YtjepdlmcombmcaaGreatDoorProg
import Derived.Test.YtjepdlmcombmcaaGreatDoorWa
import Derived.WalkSpells
import Derived.WalkLawsBesides
namespace Go.Proofs.YtjepdlmcombmcaaGreatDoor.Lx

/-- What a call that comes back with v and leaves the world brings. -/
theorem same {P : Program} {f : FuncId} {av : Array Value} {W : World} {v : Ending} {Q : Ending → World → Prop} (h : Calls P f av W (fun e w' => e = v ∧ w' = W)) (hq : Q v W) : Calls P f av W Q :=
  h.mono (fun _ _ he => by rw [he.1, he.2]; exact hq)
end Go.Proofs.YtjepdlmcombmcaaGreatDoor.Lx

/- The lexer's small methods: what each call returns, and what becomes of the world. Conditions: the lexer's block and its file's block lie as said. -/
namespace Go.Proofs.YtjepdlmcombmcaaGreatDoor.Lx
open Go.RowKit Go.Proofs.YtjepdlmcombmcaaGreatDoorW.PrintWords

/-- The lexer at block b reads the text s of the file at block fb, and stands at p. -/
structure At (w : World) (b fb : Nat) (s : ByteArray) (p : Int) : Prop where
  file : w.cell? ⟨b, 0, none⟩ = some (.pointer (some ⟨fb, 0, none⟩))
  pos : w.cell? ⟨b, 9, none⟩ = some (.int .i64 p)
  buf : w.cell? ⟨fb, 1, none⟩ = some (.string s)
theorem At.drewN {w : World} {b fb : Nat} {s : ByteArray} {p : Int} (h : At w b fb s p) (n : Nat) : At (w.drewN n) b fb s p := ⟨h.file, h.pos, h.buf⟩

theorem iwrap (x : Int) (h0 : -9223372036854775808 ≤ x) (h1 : x ≤ 9223372036854775807) : IntKind.i64.wrap x = x := IntWalk.i64_in x (by omega)

theorem ext_over (s : ByteArray) (a b c : Nat) (hb : s.size ≤ b) (hc : s.size ≤ c) : s.extract a b = s.extract a c := by
  apply ByteArray.ext
  rw [ByteArray.data_extract, ByteArray.data_extract]
  apply Array.ext
  · have : s.data.size = s.size := rfl
    simp; omega
  · intro i h1 h2
    simp

section
variable (b fb : Nat) (s : ByteArray) (p i : Int) (w : World)

theorem eof_c (h : At w b fb s p) :
    Calls Tryz.prog 69 #[.pointer (some ⟨b, 0, none⟩)] w fun e w' => e = .returned (.bool (decide ((s.size : Int) ≤ p))) ∧ Drawn0 w w' := by
  obtain ⟨h0, h1, h2⟩ := h
  go_enter Tryz.func69, Tryz.ntmps69
  go_wp2
  go_quiet (fail)
  go_wp2
  go_ret
  exact ⟨rfl, ⟨_, rfl⟩⟩

theorem peekOk_c (h : At w b fb s p) (hp0 : 0 ≤ p) (hp1 : p ≤ 1000000) (hi0 : 0 ≤ i) (hi1 : i ≤ 1000000) :
    Calls Tryz.prog 75 #[.pointer (some ⟨b, 0, none⟩), .int .i64 i] w fun e w' => e = .returned (.bool (decide (p + i < (s.size : Int)))) ∧ Drawn0 w w' := by
  obtain ⟨h0, h1, h2⟩ := h
  have e1 : IntKind.i64.wrap (p + i) = p + i := iwrap _ (by omega) (by omega)
  go_enter Tryz.func75, Tryz.ntmps75
  go_wp2
  go_quiet (fail)
  go_wp2
  go_ret
  exact ⟨rfl, ⟨_, rfl⟩⟩

theorem peek_c (h : At w b fb s p) (hp0 : 0 ≤ p) (hp1 : p ≤ 1000000) (hi0 : 0 ≤ i) (hi1 : i ≤ 1000000) (hlt : p + i < (s.size : Int)) :
    Calls Tryz.prog 77 #[.pointer (some ⟨b, 0, none⟩), .int .i64 i] w fun e w' => e = .returned (.int .u8 (bt s (p + i))) ∧ Drawn0 w w' := by
  obtain ⟨h0, h1, h2⟩ := h
  have hx := bt_at s (p + i)
  have e0 : 0 ≤ p + i := by omega
  have e1 : IntKind.i64.wrap (p + i) = p + i := iwrap _ (by omega) (by omega)
  go_enter Tryz.func77, Tryz.ntmps77
  go_wp2
  go_quiet (fail)
  go_wp2
  go_ret
  exact ⟨rfl, ⟨_, rfl⟩⟩

theorem peekIs_c (c : Int) (h : At w b fb s p) (hp0 : 0 ≤ p) (hp1 : p ≤ 1000000) (hi0 : 0 ≤ i) (hi1 : i ≤ 1000000) :
    Calls Tryz.prog 73 #[.pointer (some ⟨b, 0, none⟩), .int .i64 i, .int .u8 c] w fun e w' => e = .returned (.bool (decide (p + i < (s.size : Int)) && (bt s (p + i) == c))) ∧ Drawn0 w w' := by
  obtain ⟨h0, h1, h2⟩ := h
  have hx := bt_at s (p + i)
  have e0 : 0 ≤ p + i := by omega
  have e1 : IntKind.i64.wrap (p + i) = p + i := iwrap _ (by omega) (by omega)
  by_cases hlt : p + i < (s.size : Int)
  · go_enter Tryz.func73, Tryz.ntmps73
    go_wp2
    go_quiet (fail)
    go_wp2
    go_ret
    exact ⟨by simp [hlt], ⟨_, rfl⟩⟩
  · have hd : decide (p + i < (s.size : Int)) = false := decide_eq_false hlt
    go_enter Tryz.func73, Tryz.ntmps73
    go_wp2
    go_quiet (fail)
    go_wp2
    go_ret
    exact ⟨by rw [hd]; rfl, ⟨_, rfl⟩⟩

theorem skipN_c (h : At w b fb s p) (hz : w.frozen? ⟨b, 9, none⟩ = false) (hp0 : 0 ≤ p) (hp1 : p ≤ 1000000) (hi0 : 0 ≤ i) (hi1 : i ≤ 1000000) :
    Calls Tryz.prog 72 #[.pointer (some ⟨b, 0, none⟩), .int .i64 i] w fun e w' => e = .returned (.tuple #[]) ∧ w' = w.setCell ⟨b, 9, none⟩ (.int .i64 (p + i)) := by
  obtain ⟨h0, h1, h2⟩ := h
  go_enter Tryz.func72, Tryz.ntmps72
  go_wp2
  go_end0
  exact ⟨rfl, rfl⟩

theorem skip_c (h : At w b fb s p) (hz : w.frozen? ⟨b, 9, none⟩ = false) (hp0 : 0 ≤ p) (hp1 : p ≤ 1000000) (hlt : p < (s.size : Int)) :
    Calls Tryz.prog 78 #[.pointer (some ⟨b, 0, none⟩)] w fun e w' => e = .returned (.int .u8 (bt s p)) ∧ ∃ m, w' = (w.drewN m).setCell ⟨b, 9, none⟩ (.int .i64 (p + 1)) := by
  obtain ⟨h0, h1, h2⟩ := h
  have hx := bt_at s p
  go_enter Tryz.func78, Tryz.ntmps78
  go_wp2
  go_quiet (fail)
  go_wp2
  go_ret
  exact ⟨rfl, ⟨_, rfl⟩⟩

theorem slice_c (j : Int) (h : At w b fb s p) (hp0 : 0 ≤ p) (hp1 : p ≤ 1000000) (hi0 : 0 ≤ i) (hij : i ≤ j) (hj1 : j ≤ 1000000) (hlt : p + i ≤ (s.size : Int)) :
    Calls Tryz.prog 88 #[.pointer (some ⟨b, 0, none⟩), .int .i64 i, .int .i64 j] w fun e w' => e = .returned (.string (s.extract (p + i).toNat (p + j).toNat)) ∧ Drawn0 w w' := by
  obtain ⟨h0, h1, h2⟩ := h
  have e1 : IntKind.i64.wrap (p + i) = p + i := iwrap _ (by omega) (by omega)
  have e2 : IntKind.i64.wrap (p + j) = p + j := iwrap _ (by omega) (by omega)
  have e3 : 0 ≤ p + i := by omega
  have e4 : 0 ≤ p + j := by omega
  have e5 : p + i ≤ p + j := by omega
  by_cases hj : p + j ≤ (s.size : Int)
  · have hd : decide ((s.size : Int) < p + j) = false := decide_eq_false (by omega)
    go_enter Tryz.func88, Tryz.ntmps88
    go_wp2
    go_quiet (fail)
    go_wp2
    go_quiet (fail)
    go_wp2
    go_ret
    exact ⟨rfl, by repeat (first | exact Drawn0.refl _ | apply Drawn0.step)⟩
  · have hd : decide ((s.size : Int) < p + j) = true := decide_eq_true (by omega)
    go_enter Tryz.func88, Tryz.ntmps88
    go_wp2
    go_quiet (fail)
    go_wp2
    go_quiet (fail)
    go_wp2
    go_quiet (fail)
    go_wp2
    go_ret
    exact ⟨by rw [ext_over s (p + i).toNat (p + j).toNat (p + ((s.size : Int) - p)).toNat (by omega) (by omega)]; rfl, by repeat (first | exact Drawn0.refl _ | apply Drawn0.step)⟩
end
end Go.Proofs.YtjepdlmcombmcaaGreatDoor.Lx

/- Bytes: what the small predicates on bytes return. No conditions. -/
namespace Go.Proofs.YtjepdlmcombmcaaGreatDoor.Lx
open Go.RowKit Go.Proofs.YtjepdlmcombmcaaGreatDoorW.PrintWords

def isDigit (c : Int) : Bool := decide (48 ≤ c ∧ c ≤ 57)
def isLetter (c : Int) : Bool := decide (97 ≤ c ∧ c ≤ 122 ∨ 65 ≤ c ∧ c ≤ 90 ∨ c = 95)
def isPart (c : Int) : Bool := decide (48 ≤ c ∧ c ≤ 57 ∨ 97 ≤ c ∧ c ≤ 122 ∨ 65 ≤ c ∧ c ≤ 90 ∨ c = 95)
def isHex (c : Int) : Bool := decide (48 ≤ c ∧ c ≤ 57 ∨ 97 ≤ c ∧ c ≤ 102 ∨ 65 ≤ c ∧ c ≤ 70)
def isOct (c : Int) : Bool := decide (48 ≤ c ∧ c ≤ 55)

theorem ret_bool {a b : Bool} (h : a = b) : Ending.returned (.bool a) = .returned (.bool b) := by rw [h]
theorem ret_int {k : IntKind} {a b : Int} (h : a = b) : Ending.returned (.int k a) = .returned (.int k b) := by rw [h]

theorem charIsIdentPart_c (c : Int) (w : World) : Calls Tryz.prog 76 #[.int .u8 c] w fun e w' => e = .returned (.bool (isPart c)) ∧ w' = w := by
  go_enter Tryz.func76, Tryz.ntmps76
  go_wp2
  all_goals (go_ret; exact ⟨ret_bool (by unfold isPart; rw [Bool.eq_iff_iff]; simp <;> omega), rfl⟩)
theorem charIsDigit_c (c : Int) (w : World) : Calls Tryz.prog 80 #[.int .u8 c] w fun e w' => e = .returned (.bool (isDigit c)) ∧ w' = w := by
  go_enter Tryz.func80, Tryz.ntmps80
  go_wp2
  all_goals (go_ret; exact ⟨ret_bool (by unfold isDigit; rw [Bool.eq_iff_iff]; simp <;> omega), rfl⟩)
theorem charIsIdentStart_c (c : Int) (w : World) : Calls Tryz.prog 82 #[.int .u8 c] w fun e w' => e = .returned (.bool (isLetter c)) ∧ w' = w := by
  go_enter Tryz.func82, Tryz.ntmps82
  go_wp2
  all_goals (go_ret; exact ⟨ret_bool (by unfold isLetter; rw [Bool.eq_iff_iff]; simp <;> omega), rfl⟩)
theorem charIsHexDigit_c (c : Int) (w : World) : Calls Tryz.prog 108 #[.int .u8 c] w fun e w' => e = .returned (.bool (isHex c)) ∧ w' = w := by
  go_enter Tryz.func108, Tryz.ntmps108
  go_wp2
  all_goals (go_ret; exact ⟨ret_bool (by unfold isHex; rw [Bool.eq_iff_iff]; simp <;> omega), rfl⟩)
theorem charIsOctalDigit_c (c : Int) (w : World) : Calls Tryz.prog 112 #[.int .u8 c] w fun e w' => e = .returned (.bool (isOct c)) ∧ w' = w := by
  go_enter Tryz.func112, Tryz.ntmps112
  go_wp2
  all_goals (go_ret; exact ⟨ret_bool (by unfold isOct; rw [Bool.eq_iff_iff]; simp <;> omega), rfl⟩)
theorem specDigit_c (c : Int) (w : World) : Calls Tryz.prog 40 #[.int .u8 c] w fun e w' => e = .returned (.bool (isDigit c)) ∧ w' = w := by
  go_enter Tryz.func40, Tryz.ntmps40
  go_wp2
  all_goals (go_ret; exact ⟨ret_bool (by unfold isDigit; rw [Bool.eq_iff_iff]; simp <;> omega), rfl⟩)
theorem specLetter_c (c : Int) (w : World) : Calls Tryz.prog 42 #[.int .u8 c] w fun e w' => e = .returned (.bool (isLetter c)) ∧ w' = w := by
  go_enter Tryz.func42, Tryz.ntmps42
  go_wp2
  all_goals (go_ret; exact ⟨ret_bool (by unfold isLetter; rw [Bool.eq_iff_iff]; simp <;> omega), rfl⟩)
theorem specIdentPart_c (c : Int) (w : World) : Calls Tryz.prog 37 #[.int .u8 c] w fun e w' => e = .returned (.bool (isPart c)) ∧ w' = w := by
  go_enter Tryz.func37, Tryz.ntmps37
  go_wp2
  all_goals (go_ret; exact ⟨ret_bool (by unfold isPart; rw [Bool.eq_iff_iff]; simp <;> omega), rfl⟩)
def isBlank (c : Int) : Bool := decide (c = 32 ∨ c = 9 ∨ c = 10 ∨ c = 13)
theorem specBlank_c (c : Int) (w : World) : Calls Tryz.prog 36 #[.int .u8 c] w fun e w' => e = .returned (.bool (isBlank c)) ∧ w' = w := by
  go_enter Tryz.func36, Tryz.ntmps36
  go_wp2
  all_goals (go_ret; exact ⟨ret_bool (by unfold isBlank; rw [Bool.eq_iff_iff]; simp <;> omega), rfl⟩)
/-- The value of a hexadecimal digit, or -1. -/
def hexVal (c : Int) : Int := if 48 ≤ c ∧ c ≤ 57 then c - 48 else if 97 ≤ c ∧ c ≤ 102 then c - 87 else if 65 ≤ c ∧ c ≤ 70 then c - 55 else -1
theorem specHex_c (c : Int) (w : World) (h0 : 0 ≤ c) (h1 : c ≤ 255) : Calls Tryz.prog 60 #[.int .u8 c] w fun e w' => e = .returned (.int .i64 (hexVal c)) ∧ w' = w := by
  go_enter Tryz.func60, Tryz.ntmps60
  go_wp2
  all_goals (go_ret; exact ⟨ret_int (by unfold hexVal; (repeat' split) <;> first | rfl | omega) , rfl⟩)
end Go.Proofs.YtjepdlmcombmcaaGreatDoor.Lx

/- The lexer's state as a record, and what stays as it was; where runs of bytes end. Plain words, no walk. -/
namespace Go.Proofs.YtjepdlmcombmcaaGreatDoor.Lx
open Go.RowKit Go.Proofs.YtjepdlmcombmcaaGreatDoorW.PrintWords

/-! ### where a run ends -/
def scanTo (Q : Int → Bool) (n : Int) : Nat → Int → Int
  | 0, i => i
  | k + 1, i => if i < n then (if Q i = true then scanTo Q n k (i + 1) else i) else i
/-- The first place from i on, below n, at which Q does not hold; n if there is none. -/
def upto (Q : Int → Bool) (n i : Int) : Int := scanTo Q n (n - i).toNat i
theorem upto_step {Q : Int → Bool} {n i : Int} (h : i < n) (hq : Q i = true) : upto Q n i = upto Q n (i + 1) := by
  unfold upto
  obtain ⟨k, hk⟩ : ∃ k, (n - i).toNat = k + 1 := ⟨(n - i).toNat - 1, by omega⟩
  rw [hk, show (n - (i + 1)).toNat = k by omega]
  simp only [scanTo]
  rw [if_pos h, if_pos hq]
theorem upto_stop {Q : Int → Bool} {n i : Int} (hq : Q i = false) : upto Q n i = i := by
  unfold upto
  cases (n - i).toNat with
  | zero => rfl
  | succ k =>
    simp only [scanTo]
    split
    · rw [if_neg (by rw [hq]; decide)]
    · rfl
theorem upto_end {Q : Int → Bool} {n i : Int} (h : n ≤ i) : upto Q n i = i := by
  unfold upto
  rw [show (n - i).toNat = 0 by omega]
  rfl
theorem scanTo_range (Q : Int → Bool) (n : Int) : ∀ (k : Nat) (i : Int), i ≤ scanTo Q n k i ∧ (i ≤ n → scanTo Q n k i ≤ n)
  | 0, i => ⟨Int.le_refl _, fun h => h⟩
  | k + 1, i => by
    simp only [scanTo]
    split
    · split
      · have := scanTo_range Q n k (i + 1)
        exact ⟨by omega, fun _ => this.2 (by omega)⟩
      · exact ⟨Int.le_refl _, fun h => h⟩
    · exact ⟨Int.le_refl _, fun h => h⟩
theorem upto_ge (Q : Int → Bool) (n i : Int) : i ≤ upto Q n i := (scanTo_range Q n _ i).1
theorem upto_le {Q : Int → Bool} {n i : Int} (h : i ≤ n) : upto Q n i ≤ n := (scanTo_range Q n _ i).2 h
/-- The run of the bytes of a kind. -/
def run (p : Int → Bool) (s : ByteArray) (i : Int) : Int := upto (fun j => p (bt s j)) (s.size : Int) i
theorem run_step {p : Int → Bool} {s : ByteArray} {i : Int} (h : i < (s.size : Int)) (hq : p (bt s i) = true) : run p s i = run p s (i + 1) := upto_step (Q := fun j => p (bt s j)) h hq
theorem run_stop {p : Int → Bool} {s : ByteArray} {i : Int} (hq : p (bt s i) = false) : run p s i = i := upto_stop (Q := fun j => p (bt s j)) hq
theorem run_end {p : Int → Bool} {s : ByteArray} {i : Int} (h : (s.size : Int) ≤ i) : run p s i = i := upto_end h
theorem run_ge (p : Int → Bool) (s : ByteArray) (i : Int) : i ≤ run p s i := upto_ge _ _ _
theorem run_le {p : Int → Bool} {s : ByteArray} {i : Int} (h : i ≤ (s.size : Int)) : run p s i ≤ (s.size : Int) := upto_le h

/-- All bytes of a text are below 128. -/
def Ascii (s : ByteArray) : Prop := ∀ i : Int, 0 ≤ i → i < (s.size : Int) → bt s i < 128

/-! ### what stays -/
/-- Of what was there, nothing but block b has changed. -/
structure Ups (b : Nat) (w w' : World) : Prop where
  os : w'.os = w.os
  tape : w'.tape = w.tape
  output : w'.output = w.output
  size : w.heap.size ≤ w'.heap.size
  block : ∀ k, k < w.heap.size → k ≠ b → w'.heap[k]? = w.heap[k]?
theorem Ups.refl (b : Nat) (w : World) : Ups b w w := ⟨rfl, rfl, rfl, Nat.le_refl _, fun _ _ _ => rfl⟩
theorem Ups.trans {b : Nat} {u v w : World} (h : Ups b u v) (k : Ups b v w) : Ups b u w :=
  ⟨k.os.trans h.os, k.tape.trans h.tape, k.output.trans h.output, Nat.le_trans h.size k.size, fun i hi hn => (k.block i (Nat.lt_of_lt_of_le hi h.size) hn).trans (h.block i hi hn)⟩
theorem Ups.drewN {b : Nat} {u w : World} (h : Ups b u w) (n : Nat) : Ups b u (w.drewN n) := ⟨h.os, h.tape, h.output, h.size, h.block⟩
theorem Ups.drew {b : Nat} {u w : World} (h : Ups b u w) : Ups b u w.drew := ⟨h.os, h.tape, h.output, h.size, h.block⟩
theorem Ups.below {b : Nat} {u v w : World} (h : Ups b u v) (k : Below v.heap.size v w) : Ups b u w :=
  ⟨k.os.trans h.os, k.tape.trans h.tape, k.output.trans h.output, Nat.le_trans h.size k.size, fun i hi hn => (k.block i (Nat.lt_of_lt_of_le hi h.size)).trans (h.block i hi hn)⟩
theorem Ups.alloc {b : Nat} {u w : World} (h : Ups b u w) (o : Obj) : Ups b u (w.alloc o) := h.below (below_alloc (Below.refl _ _) o)
theorem Ups.setCell {b : Nat} {u w : World} (h : Ups b u w) {p : Addr} (hp : p.block = b ∨ u.heap.size ≤ p.block) (x : Value) : Ups b u (w.setCell p x) :=
  ⟨h.os, h.tape, h.output, by simpa [World.setCell] using h.size, fun i hi hn => (Below.heap_setCell w p x i (by rcases hp with hp | hp <;> omega)).trans (h.block i hi hn)⟩
theorem Ups.set {b : Nat} {u w : World} (h : Ups b u w) (i : Nat) (x : Value) : Ups b u (w.setCell ⟨b, i, none⟩ x) := h.setCell (.inl rfl) x
theorem Ups.to_below {b B : Nat} {u w : World} (h : Ups b u w) (hb : B ≤ b) (hB : B ≤ u.heap.size) : Below B u w :=
  ⟨h.os, h.tape, h.output, h.size, fun k hk => h.block k (by omega) (by omega)⟩
theorem Ups.obj {b k : Nat} {u w : World} {o : Obj} (h : Ups b u w) (hk : u.heap[k]? = some o) (hn : k ≠ b) : w.heap[k]? = some o := (h.block k (blk_lt hk) hn).trans hk

/-! ### the lexer -/
structure St where
  kind : ByteArray
  com : Value
  space : ByteArray
  raw : ByteArray
  txt : ByteArray
  base : Int
  tp : Int
  te : Int
  pos : Int
  last : ByteArray
  dot : Bool
def St.cells (fb : Nat) (x : St) : Array Value :=
  #[.pointer (some ⟨fb, 0, none⟩), .string x.kind, x.com, .string x.space, .string x.raw, .string x.txt, .int .i64 x.base, .int .i64 x.tp, .int .i64 x.te, .int .i64 x.pos, .string x.last, .bool x.dot]
/-- The lexer at block b is in the state x. -/
def IsL (w : World) (b fb : Nat) (x : St) : Prop := w.heap[b]? = some (.cells (x.cells fb) 67 (0, 0))
/-- The file at block fb holds the text s. -/
def IsF (w : World) (fb : Nat) (s : ByteArray) : Prop := ∃ path lines, w.heap[fb]? = some (.cells #[.string path, .string s, lines] 85 (0, 0))
section
variable {w : World} {b fb : Nat} {x : St} {s : ByteArray}
theorem IsL.c0 (h : IsL w b fb x) : w.cell? ⟨b, 0, none⟩ = some (.pointer (some ⟨fb, 0, none⟩)) := (blk_cell h 0).trans rfl
theorem IsL.c1 (h : IsL w b fb x) : w.cell? ⟨b, 1, none⟩ = some (.string x.kind) := (blk_cell h 1).trans rfl
theorem IsL.c2 (h : IsL w b fb x) : w.cell? ⟨b, 2, none⟩ = some x.com := (blk_cell h 2).trans rfl
theorem IsL.c3 (h : IsL w b fb x) : w.cell? ⟨b, 3, none⟩ = some (.string x.space) := (blk_cell h 3).trans rfl
theorem IsL.c4 (h : IsL w b fb x) : w.cell? ⟨b, 4, none⟩ = some (.string x.raw) := (blk_cell h 4).trans rfl
theorem IsL.c5 (h : IsL w b fb x) : w.cell? ⟨b, 5, none⟩ = some (.string x.txt) := (blk_cell h 5).trans rfl
theorem IsL.c6 (h : IsL w b fb x) : w.cell? ⟨b, 6, none⟩ = some (.int .i64 x.base) := (blk_cell h 6).trans rfl
theorem IsL.c7 (h : IsL w b fb x) : w.cell? ⟨b, 7, none⟩ = some (.int .i64 x.tp) := (blk_cell h 7).trans rfl
theorem IsL.c8 (h : IsL w b fb x) : w.cell? ⟨b, 8, none⟩ = some (.int .i64 x.te) := (blk_cell h 8).trans rfl
theorem IsL.c9 (h : IsL w b fb x) : w.cell? ⟨b, 9, none⟩ = some (.int .i64 x.pos) := (blk_cell h 9).trans rfl
theorem IsL.c10 (h : IsL w b fb x) : w.cell? ⟨b, 10, none⟩ = some (.string x.last) := (blk_cell h 10).trans rfl
theorem IsL.c11 (h : IsL w b fb x) : w.cell? ⟨b, 11, none⟩ = some (.bool x.dot) := (blk_cell h 11).trans rfl
theorem IsL.free (h : IsL w b fb x) (i : Nat) : w.frozen? ⟨b, i, none⟩ = false := blk_frozen h i
theorem IsL.lt (h : IsL w b fb x) : b < w.heap.size := blk_lt h
theorem IsL.drewN (h : IsL w b fb x) (n : Nat) : IsL (w.drewN n) b fb x := h
theorem IsL.drew (h : IsL w b fb x) : IsL w.drew b fb x := h
theorem IsL.alloc (h : IsL w b fb x) (o : Obj) : IsL (w.alloc o) b fb x := blk_alloc h o
theorem IsL.below {w1 : World} (h : IsL w b fb x) (hb : Below w.heap.size w w1) : IsL w1 b fb x := blk_below h hb
theorem IsL.far (h : IsL w b fb x) {p : Addr} (hp : b ≠ p.block) (u : Value) : IsL (w.setCell p u) b fb x := blk_far h hp u
theorem IsL.set1 (h : IsL w b fb x) (v : ByteArray) : IsL (w.setCell ⟨b, 1, none⟩ (.string v)) b fb { x with kind := v } := (blk_set h 1 _).trans rfl
theorem IsL.set2 (h : IsL w b fb x) (v : Value) : IsL (w.setCell ⟨b, 2, none⟩ v) b fb { x with com := v } := (blk_set h 2 _).trans rfl
theorem IsL.set3 (h : IsL w b fb x) (v : ByteArray) : IsL (w.setCell ⟨b, 3, none⟩ (.string v)) b fb { x with space := v } := (blk_set h 3 _).trans rfl
theorem IsL.set4 (h : IsL w b fb x) (v : ByteArray) : IsL (w.setCell ⟨b, 4, none⟩ (.string v)) b fb { x with raw := v } := (blk_set h 4 _).trans rfl
theorem IsL.set5 (h : IsL w b fb x) (v : ByteArray) : IsL (w.setCell ⟨b, 5, none⟩ (.string v)) b fb { x with txt := v } := (blk_set h 5 _).trans rfl
theorem IsL.set6 (h : IsL w b fb x) (v : Int) : IsL (w.setCell ⟨b, 6, none⟩ (.int .i64 v)) b fb { x with base := v } := (blk_set h 6 _).trans rfl
theorem IsL.set7 (h : IsL w b fb x) (v : Int) : IsL (w.setCell ⟨b, 7, none⟩ (.int .i64 v)) b fb { x with tp := v } := (blk_set h 7 _).trans rfl
theorem IsL.set8 (h : IsL w b fb x) (v : Int) : IsL (w.setCell ⟨b, 8, none⟩ (.int .i64 v)) b fb { x with te := v } := (blk_set h 8 _).trans rfl
theorem IsL.set9 (h : IsL w b fb x) (v : Int) : IsL (w.setCell ⟨b, 9, none⟩ (.int .i64 v)) b fb { x with pos := v } := (blk_set h 9 _).trans rfl
theorem IsL.set10 (h : IsL w b fb x) (v : ByteArray) : IsL (w.setCell ⟨b, 10, none⟩ (.string v)) b fb { x with last := v } := (blk_set h 10 _).trans rfl
theorem IsL.set11 (h : IsL w b fb x) (v : Bool) : IsL (w.setCell ⟨b, 11, none⟩ (.bool v)) b fb { x with dot := v } := (blk_set h 11 _).trans rfl
theorem IsF.buf (h : IsF w fb s) : w.cell? ⟨fb, 1, none⟩ = some (.string s) := by
  obtain ⟨path, lines, h⟩ := h
  exact (blk_cell h 1).trans rfl
theorem IsF.drewN (h : IsF w fb s) (n : Nat) : IsF (w.drewN n) fb s := h
theorem IsF.ne (h : IsF w fb s) (hL : IsL w b fb x) : fb ≠ b := by
  obtain ⟨path, lines, h⟩ := h
  exact blk_ne h hL (by decide)
theorem IsF.ups {w1 : World} (h : IsF w fb s) (hu : Ups b w w1) (hn : fb ≠ b) : IsF w1 fb s := by
  obtain ⟨path, lines, h⟩ := h
  exact ⟨path, lines, hu.obj h hn⟩
theorem IsL.at_ (h : IsL w b fb x) (hF : IsF w fb s) : At w b fb s x.pos := ⟨h.c0, h.c9, hF.buf⟩
end

/-! ### a call inside a region that is walked quietly -/
theorem quiet1 {P : Program} {f : FuncId} {args : Array Value} {W : World} {v : Value} {Q : World → Prop} (h : Calls P f args W fun e w' => e = .returned v ∧ w' = W) (hq : Q W) :
    Calls P f args W fun e w'' => e = .returned v ∧ Q w'' := h.mono fun _ _ ⟨he, hw⟩ => ⟨he, hw ▸ hq⟩
theorem quiet2 {P : Program} {f : FuncId} {args : Array Value} {W : World} {v : Value} {Q : World → Prop} (h : Calls P f args W fun e w' => e = .returned v ∧ Drawn0 W w') (hq : ∀ m, Q (W.drewN m)) :
    Calls P f args W fun e w'' => e = .returned v ∧ Q w'' := h.mono fun _ _ ⟨he, ⟨⟨m, hw⟩⟩⟩ => ⟨he, hw ▸ hq m⟩
theorem drewN_add (w : World) (k a m : Nat) : (w.drewN (k + a)).drewN m = w.drewN (k + (a + m)) := by rw [World.drewN_drewN, Nat.add_assoc]
end Go.Proofs.YtjepdlmcombmcaaGreatDoor.Lx

/- The lexer's blanks: a rune is read off an ASCII text; blanks are passed over. Conditions: the text's bytes are below 128. -/
namespace Go.Proofs.YtjepdlmcombmcaaGreatDoor.Lx
open Go.RowKit Go.Proofs.YtjepdlmcombmcaaGreatDoorW.PrintWords

theorem bt_extract (s : ByteArray) (a c i : Int) (ha : 0 ≤ a) (hi : 0 ≤ i) (hc : a + i < c) (hs : c ≤ (s.size : Int)) : bt (s.extract a.toNat c.toNat) i = bt s (a + i) := by
  have h1 : i.toNat < (s.extract a.toNat c.toNat).size := by rw [ByteArray.size_extract]; omega
  have h2 : (a + i).toNat < s.size := by omega
  rw [← bt_at _ i h1, ← bt_at s (a + i) h2, ByteArray.getElem_extract]
  congr 3
  omega
theorem size_extract (s : ByteArray) (a c : Int) (ha : 0 ≤ a) (hac : a ≤ c) (hs : c ≤ (s.size : Int)) : ((s.extract a.toNat c.toNat).size : Int) = c - a := by
  rw [ByteArray.size_extract]
  omega

theorem ne_empty {t : ByteArray} (h0 : 0 < t.size) : t.toList.isEmpty = false := by
  rw [ByteArray.toList_eq]
  cases t with
  | mk d => cases d with | mk l => cases l with
    | nil => exact absurd h0 (by decide)
    | cons _ _ => rfl
theorem dec_ascii (t : ByteArray) (w : World) (h0 : 0 < t.size) (hc : bt t 0 < 128) :
    Calls Tryz.prog 70 #[.string t] w fun e w' => e = .returned (.tuple #[.int .i32 (bt t 0), .int .i64 1]) ∧ w' = w := by
  have hx : ∀ h : 0 < t.size, ((t[0]'h).toNat : Int) = bt t 0 := bt_at t 0
  have hr := bt_range t 0
  have hr1 := hr.1
  have hr2 := hr.2
  clear hr
  have hn := ne_empty h0
  have hn2 : (!t.toList.isEmpty) = true := by rw [hn]; rfl
  go_enter Tryz.func70, Tryz.ntmps70
  go_wp2
  go_ret2
  exact ⟨rfl, rfl⟩
theorem slow_empty (w : World) :
    Calls Tryz.prog 105 #[.string ⟨#[]⟩] w fun e w' => e = .returned (.tuple #[.int .i32 65533, .int .i64 0]) ∧ w' = w := by
  go_enter Tryz.func105, Tryz.ntmps105
  go_wp2
  go_ret2
  exact ⟨rfl, rfl⟩
theorem dec_empty (w : World) :
    Calls Tryz.prog 70 #[.string ⟨#[]⟩] w fun e w' => e = .returned (.tuple #[.int .i32 65533, .int .i64 0]) ∧ w' = w := by
  go_enter Tryz.func70, Tryz.ntmps70
  go_wp2_with (first | (go_at_call 105; (with_reducible refine (slow_empty _).mono ?_); rintro e w' ⟨rfl, rfl⟩))
  go_ret2
  exact ⟨rfl, rfl⟩

def isSp (c : Int) : Bool := decide (c = 9 ∨ c = 10 ∨ c = 11 ∨ c = 12 ∨ c = 13 ∨ c = 32)
theorem isSpace_c (c : Int) (w : World) (h0 : 0 ≤ c) (h1 : c < 128) :
    Calls Tryz.prog 71 #[.int .i32 c] w fun e w' => e = .returned (.bool (isSp c)) ∧ w' = w := by
  go_enter Tryz.func71, Tryz.ntmps71
  go_wp2
  all_goals (go_ret; refine ⟨ret_bool ?_, rfl⟩; unfold isSp; rw [Bool.eq_iff_iff]; (try simp only [beq_iff_eq, beq_eq_false_iff_ne] at *); simp <;> omega)
theorem dec_at (s : ByteArray) (p : Int) (w : World) (h0 : 0 ≤ p) (h1 : p < (s.size : Int)) (hc : bt s p < 128) :
    Calls Tryz.prog 70 #[.string (s.extract p.toNat s.size)] w fun e w' => e = .returned (.tuple #[.int .i32 (bt s p), .int .i64 1]) ∧ w' = w := by
  have hs : (s.extract p.toNat s.size).size = s.size - p.toNat := by rw [ByteArray.size_extract]; omega
  have hb : bt (s.extract p.toNat s.size) 0 = bt s p := by
    have := bt_extract s p (s.size : Int) 0 h0 (by omega) (by omega) (by omega)
    simpa using this
  have := dec_ascii (s.extract p.toNat s.size) w (by omega) (by omega)
  rwa [hb] at this

theorem skipSpaces_c (w : World) (b fb : Nat) (x : St) (s : ByteArray) (hL : IsL w b fb x) (hF : IsF w fb s) (hA : Ascii s) (hp0 : 0 ≤ x.pos) (hp1 : x.pos ≤ (s.size : Int)) (hs : (s.size : Int) ≤ 1000000) :
    Calls Tryz.prog 51 #[.pointer (some ⟨b, 0, none⟩)] w fun e w' => e = .returned (.tuple #[]) ∧ Ups b w w' ∧ IsL w' b fb { x with pos := run isSp s x.pos } := by
  have hne := hF.ne hL
  go_enter Tryz.func51, Tryz.ntmps51
  go_wp2
  go_loopg [] (((s.size : Int) - x.pos).toNat + 1) (fun kq wr => ∃ q : Int, Aside0 (x.pos ≤ q ∧ q ≤ (s.size : Int) ∧ run isSp s q = run isSp s x.pos ∧ ((s.size : Int) - q).toNat < kq) ∧ Ups b w wr ∧ IsL wr b fb { x with pos := q })
  case atStart => exact ⟨x.pos, ⟨Int.le_refl _, hp1, rfl, by omega⟩, Ups.refl _ _, hL⟩
  case round =>
    obtain ⟨q, HA, hU, hLq⟩ := hrel
    have hFq : IsF wr fb s := hF.ups hU hne
    have hat : At wr b fb s q := hLq.at_ hFq
    have H0 := hat.file
    have H1 := hat.pos
    have H2 := hat.buf
    by_cases hq : q < (s.size : Int)
    · have hd : decide ((s.size : Int) ≤ q) = false := decide_eq_false (by omega)
      have hq0 : 0 ≤ q := by have := HA.out.1; omega
      have hq1 : q ≤ (s.size : Int) := by omega
      have hc := hA q hq0 hq
      have hc0 := (bt_range s q).1
      by_cases hsp : isSp (bt s q) = true
      · go_wp2_with (first | (go_at_call 69; (with_reducible refine (eof_c b fb s q _ hat).mono ?_); rintro e w' ⟨rfl, ⟨nd, rfl⟩⟩))
        go_quiet ((go_at_call 70; exact quiet1 (dec_at s q _ hq0 hq hc) ⟨_, rfl⟩))
        go_wp2_with (first | (go_at_call 71; (with_reducible refine (isSpace_c _ _ hc0 hc).mono ?_); rintro e w' ⟨rfl, rfl⟩) | (go_at_call 72; (with_reducible refine (skipN_c b fb s q 1 _ (hat.drewN _) ((hLq.drewN _).free 9) hq0 (by omega) (by omega) (by omega)).mono ?_); rintro e w' ⟨rfl, rfl⟩))
        go_roundg (((s.size : Int) - (q + 1)).toNat + 1)
        case measure => have := HA.out.2.2.2; omega
        case rel => exact ⟨q + 1, ⟨by have := HA.out.1; omega, by omega, by rw [← HA.out.2.2.1]; exact (run_step hq hsp).symm, by omega⟩, Ups.setCell (hU.drewN _) (.inl rfl) _, hLq.set9 (q + 1)⟩
      · have hsp2 : isSp (bt s q) = false := by simpa using hsp
        clear hsp
        go_wp2_with (first | (go_at_call 69; (with_reducible refine (eof_c b fb s q _ hat).mono ?_); rintro e w' ⟨rfl, ⟨nd, rfl⟩⟩))
        go_quiet ((go_at_call 70; exact quiet1 (dec_at s q _ hq0 hq hc) ⟨_, rfl⟩))
        go_wp2_with (first | (go_at_call 71; (with_reducible refine (isSpace_c _ _ hc0 hc).mono ?_); rintro e w' ⟨rfl, rfl⟩))
        (try simp only [Exit.inBlock, Exit.then]); refine bodyPost_ret (results_none rfl _ _ _) rfl ?_
        have hr : run isSp s x.pos = q := by rw [← HA.out.2.2.1]; exact run_stop hsp2
        exact ⟨rfl, hU.drewN _, by rw [hr]; exact hLq⟩
    · have hd : decide ((s.size : Int) ≤ q) = true := decide_eq_true (by omega)
      go_wp2_with (first | (go_at_call 69; (with_reducible refine (eof_c b fb s q _ hat).mono ?_); rintro e w' ⟨rfl, ⟨nd, rfl⟩⟩))
      go_end0
      have hr : run isSp s x.pos = q := by rw [← HA.out.2.2.1]; exact run_end (by omega)
      exact ⟨rfl, hU.drewN _, by rw [hr]; exact hLq⟩
end Go.Proofs.YtjepdlmcombmcaaGreatDoor.Lx

/- The lexer's tokens (first part): the end of the text, the signs < and > alone. Conditions: the lexer's state, the byte at its place. -/
namespace Go.Proofs.YtjepdlmcombmcaaGreatDoor.Lx
open Go.RowKit Go.Proofs.YtjepdlmcombmcaaGreatDoorW.PrintWords

set_option maxRecDepth 100000 in
theorem tok_eof (w : World) (b fb : Nat) (x : St) (s : ByteArray) (hL : IsL w b fb x) (hF : IsF w fb s) (hp : x.pos = (s.size : Int)) :
    Calls Tryz.prog 54 #[.pointer (some ⟨b, 0, none⟩), .bool false] w fun e w' => e = .returned (.tuple #[]) ∧ Ups b w w' ∧ IsL w' b fb { x with kind := ⟨#[60, 101, 111, 102, 62]⟩ } := by
  have hat := hL.at_ hF
  have hd : decide ((s.size : Int) ≤ x.pos) = true := decide_eq_true (by omega)
  have H1 := hL.c1
  have Z1 := hL.free 1
  go_enter Tryz.func54, Tryz.ntmps54
  go_wp2_with (first | (go_at_call 69; (with_reducible refine (eof_c b fb s _ _ hat).mono ?_); rintro e w' ⟨rfl, ⟨nd, rfl⟩⟩))
  (try simp only [Exit.inBlock, Exit.then]); refine bodyPost_ret (results_none rfl _ _ _) rfl ?_
  exact ⟨rfl, by repeat (first | exact Ups.refl _ _ | apply Ups.set | apply Ups.drewN), (hL.drewN _).set1 _⟩

set_option maxRecDepth 100000 in
/-- The sign < with no sign behind it that would make a greater one. -/
theorem tok_lt (w : World) (b fb : Nat) (x : St) (s : ByteArray) (hL : IsL w b fb x) (hF : IsF w fb s) (hp0 : 0 ≤ x.pos) (hp : x.pos < (s.size : Int)) (hs : (s.size : Int) ≤ 1000000)
    (hc : bt s x.pos = 60) (h1 : (decide (x.pos + 1 < (s.size : Int)) && (bt s (x.pos + 1) == 60)) = false) (h2 : (decide (x.pos + 1 < (s.size : Int)) && (bt s (x.pos + 1) == 61)) = false) (h3 : (decide (x.pos + 1 < (s.size : Int)) && (bt s (x.pos + 1) == 62)) = false) :
    Calls Tryz.prog 54 #[.pointer (some ⟨b, 0, none⟩), .bool false] w fun e w' => e = .returned (.tuple #[]) ∧ Ups b w w' ∧ IsL w' b fb { x with kind := ⟨#[60]⟩, pos := x.pos + 1 } := by
  have hat := hL.at_ hF
  have hd : decide ((s.size : Int) ≤ x.pos) = false := decide_eq_false (by omega)
  have Z1 := hL.free 1
  have H1 := hL.c1
  go_enter Tryz.func54, Tryz.ntmps54
  go_wp2_with (first
    | (go_at_call 69; (with_reducible refine (eof_c b fb s _ _ hat).mono ?_); rintro e w' ⟨rfl, ⟨n1, rfl⟩⟩)
    | (go_at_call 77; (with_reducible refine (peek_c b fb s _ 0 _ (hat.drewN _) hp0 (by omega) (by omega) (by omega) (by omega)).mono ?_); rintro e w' ⟨rfl, ⟨n2, rfl⟩⟩)
    | (go_at_call 73; (with_reducible refine (peekIs_c b fb s _ 1 _ _ (hat.drewN _) hp0 (by omega) (by omega) (by omega)).mono ?_); rintro e w' ⟨rfl, ⟨n3, rfl⟩⟩)
    | (go_at_call 78; (with_reducible refine (skip_c b fb s _ _ (hat.drewN _) ((hL.drewN _).free 9) hp0 (by omega) hp).mono ?_); rintro e w' ⟨rfl, ⟨n4, rfl⟩⟩))
  (try simp only [Exit.inBlock, Exit.then]); refine bodyPost_ret (results_none rfl _ _ _) rfl ?_
  exact ⟨rfl, by repeat (first | exact Ups.refl _ _ | apply Ups.set | apply Ups.drewN), ((hL.drewN _).set9 _).set1 _⟩
end Go.Proofs.YtjepdlmcombmcaaGreatDoor.Lx

/- The reserved words: what the test of a word returns. No conditions. -/
namespace Go.Proofs.YtjepdlmcombmcaaGreatDoor.Lx
open Go.RowKit Go.Proofs.YtjepdlmcombmcaaGreatDoorW.PrintWords

/-- The reserved words, as bytes. -/
def kwList : List (List UInt8) := [
  [65, 76, 76],
  [65, 78, 68],
  [65, 78, 89],
  [65, 82, 82, 65, 89],
  [65, 83],
  [65, 83, 67],
  [65, 83, 83, 69, 82, 84, 95, 82, 79, 87, 83, 95, 77, 79, 68, 73, 70, 73, 69, 68],
  [65, 84],
  [66, 69, 84, 87, 69, 69, 78],
  [66, 89],
  [67, 65, 83, 69],
  [67, 65, 83, 84],
  [67, 79, 76, 76, 65, 84, 69],
  [67, 79, 78, 84, 65, 73, 78, 83],
  [67, 82, 69, 65, 84, 69],
  [67, 82, 79, 83, 83],
  [67, 85, 66, 69],
  [67, 85, 82, 82, 69, 78, 84],
  [68, 69, 70, 65, 85, 76, 84],
  [68, 69, 70, 73, 78, 69],
  [68, 69, 83, 67],
  [68, 73, 83, 84, 73, 78, 67, 84],
  [69, 76, 83, 69],
  [69, 78, 68],
  [69, 78, 85, 77],
  [69, 83, 67, 65, 80, 69],
  [69, 88, 67, 69, 80, 84],
  [69, 88, 67, 76, 85, 68, 69],
  [69, 88, 73, 83, 84, 83],
  [69, 88, 84, 82, 65, 67, 84],
  [70, 65, 76, 83, 69],
  [70, 69, 84, 67, 72],
  [70, 79, 76, 76, 79, 87, 73, 78, 71],
  [70, 79, 82],
  [70, 82, 79, 77],
  [70, 85, 76, 76],
  [71, 82, 65, 80, 72, 95, 84, 65, 66, 76, 69],
  [71, 82, 79, 85, 80],
  [71, 82, 79, 85, 80, 73, 78, 71],
  [71, 82, 79, 85, 80, 83],
  [72, 65, 83, 72],
  [72, 65, 86, 73, 78, 71],
  [73, 71, 78, 79, 82, 69],
  [73, 70],
  [73, 78],
  [73, 78, 78, 69, 82],
  [73, 78, 84, 69, 82, 83, 69, 67, 84],
  [73, 78, 84, 69, 82, 86, 65, 76],
  [73, 78, 84, 79],
  [73, 83],
  [74, 79, 73, 78],
  [76, 65, 84, 69, 82, 65, 76],
  [76, 69, 70, 84],
  [76, 73, 75, 69],
  [76, 73, 77, 73, 84],
  [76, 79, 79, 75, 85, 80],
  [77, 69, 82, 71, 69],
  [78, 65, 84, 85, 82, 65, 76],
  [78, 69, 87],
  [78, 79],
  [78, 79, 84],
  [78, 85, 76, 76],
  [78, 85, 76, 76, 83],
  [79, 70],
  [79, 78],
  [79, 82],
  [79, 82, 68, 69, 82],
  [79, 85, 84, 69, 82],
  [79, 86, 69, 82],
  [80, 65, 82, 84, 73, 84, 73, 79, 78],
  [80, 82, 69, 67, 69, 68, 73, 78, 71],
  [80, 82, 79, 84, 79],
  [82, 65, 78, 71, 69],
  [82, 69, 67, 85, 82, 83, 73, 86, 69],
  [82, 69, 83, 80, 69, 67, 84],
  [82, 73, 71, 72, 84],
  [82, 79, 76, 76, 85, 80],
  [82, 79, 87, 83],
  [83, 69, 76, 69, 67, 84],
  [83, 69, 84],
  [83, 79, 77, 69],
  [83, 84, 82, 85, 67, 84],
  [84, 65, 66, 76, 69, 83, 65, 77, 80, 76, 69],
  [84, 72, 69, 78],
  [84, 79],
  [84, 82, 69, 65, 84],
  [84, 82, 85, 69],
  [85, 78, 66, 79, 85, 78, 68, 69, 68],
  [85, 78, 73, 79, 78],
  [85, 78, 78, 69, 83, 84],
  [85, 83, 73, 78, 71],
  [87, 72, 69, 78],
  [87, 72, 69, 82, 69],
  [87, 73, 78, 68, 79, 87],
  [87, 73, 84, 72],
  [87, 73, 84, 72, 73, 78]]
def kw (l : List UInt8) : Bool := kwList.contains l
theorem kw_yes {l m : List UInt8} (h : (l == m) = true) (hm : kw m = true) : kw l = true := by
  rw [eq_of_beq h]; exact hm
set_option maxRecDepth 100000 in
set_option maxHeartbeats 4000000 in
theorem zzKeyword_c (k : ByteArray) (w : World) : Calls Tryz.prog 90 #[.string k] w fun e w' => e = .returned (.bool (kw k.toList)) ∧ w' = w := by
  go_enter Tryz.func90, Tryz.ntmps90
  go_wp2
  all_goals go_ret
  all_goals first
    | exact ⟨ret_bool (kw_yes (by assumption) (by decide)).symm, rfl⟩
    | (exfalso; rename_i a b; rw [a] at b; cases b)
    | exact ⟨ret_bool (by simp only [kw, kwList, List.contains_cons, List.contains_nil, *, Bool.or_false]), rfl⟩
end Go.Proofs.YtjepdlmcombmcaaGreatDoor.Lx

/- Bytes of the call's own: a slice over a row of bytes (a conversion's row with its mark, too) is read, written, appended to, made a string. Plain laws. -/
namespace Go.Proofs.YtjepdlmcombmcaaGreatDoor.Lx
open Go.RowKit Go.Proofs.YtjepdlmcombmcaaGreatDoorW.PrintWords

/-- The slice v holds just the numbers xs, at the head of a row of bytes from block base on, of which no cell is frozen. -/
def OwnB (w : World) (base : Nat) (v : Value) (xs : List Int) : Prop :=
  ∃ g cap cur fr, v = .slice (some ⟨g, 0, none⟩) xs.length cap ∧ base ≤ g ∧ w.heap[g]? = some (.cells cur 5 fr) ∧ (fr = (0, 0) ∨ cur.size ≤ fr.1) ∧ xs.length ≤ cap ∧ cap ≤ maxLen ∧ cur.size = cap ∧ cur.toList.take xs.length = nums .u8 xs

theorem take_get {cur : Array Value} {xs : List Int} (h : cur.toList.take xs.length = nums .u8 xs) (j : Nat) (hj : j < xs.length) : cur[j]? = some (.int .u8 (xs.getD j 0)) := by
  have h1 : (cur.toList.take xs.length)[j]? = (nums .u8 xs)[j]? := by rw [h]
  rw [List.getElem?_take_of_lt hj] at h1
  rw [← Array.getElem?_toList, h1]
  simp [nums, hj, List.getD_eq_getElem?_getD]
section
variable {w : World} {base : Nat} {v : Value} {xs : List Int}
theorem OwnB.length_le (h : OwnB w base v xs) : xs.length ≤ 9223372036854775807 := by
  obtain ⟨g, cap, cur, fr, _, _, _, _, h1, h2, _, _⟩ := h
  simp only [maxLen] at h2
  omega
theorem OwnB.kept (h : OwnB w base v xs) {w1 : World} {row : Option Nat} (hg : w.grownBy w1 row) (hne : v.ownBlock = none ∨ v.ownBlock ≠ row) : OwnB w1 base v xs := by
  obtain ⟨g, cap, cur, fr, rfl, hb, hh, rest⟩ := h
  refine ⟨g, cap, cur, fr, rfl, hb, (hg.block g (blk_lt hh) ?_).trans hh, rest⟩
  rcases hne with hne | hne
  · simp [Value.ownBlock] at hne
  · simpa [Value.ownBlock] using hne
theorem OwnB.below (h : OwnB w base v xs) {w1 : World} (hb : Below w.heap.size w w1) : OwnB w1 base v xs :=
  h.kept (grown_of_below hb none) (by obtain ⟨g, cap, cur, fr, rfl, _⟩ := h; exact .inr (by simp [Value.ownBlock]))
theorem OwnB.base_le (h : OwnB w base v xs) {B : Nat} (hB : B ≤ base) : OwnB w B v xs := by
  obtain ⟨g, cap, cur, fr, hv, hb, rest⟩ := h
  exact ⟨g, cap, cur, fr, hv, Nat.le_trans hB hb, rest⟩
theorem OwnB.shape (h : OwnB w base v xs) : ∃ g n cap, v = .slice (some ⟨g, 0, none⟩) n cap := by
  obtain ⟨g, cap, cur, fr, hv, _⟩ := h
  exact ⟨g, _, cap, hv⟩
theorem OwnB.own_base (h : OwnB w base v xs) : ∀ k, v.ownBlock = some k → base ≤ k := by
  obtain ⟨g, cap, cur, fr, rfl, hb, _⟩ := h
  intro k hk
  have : g = k := by simpa [Value.ownBlock] using hk
  omega
theorem OwnB.alloc (h : OwnB w base v xs) (o : Obj) : OwnB (w.alloc o) base v xs := h.below (below_alloc (Below.refl _ _) o)
theorem OwnB.drewN (h : OwnB w base v xs) (n : Nat) : OwnB (w.drewN n) base v xs := h
/-- What the slice looks like, and its cells. -/
theorem OwnB.form (h : OwnB w base v xs) : ∃ g cap, v = .slice (some ⟨g, 0, none⟩) xs.length cap ∧ base ≤ g ∧ g < w.heap.size ∧ xs.length ≤ cap ∧ cap ≤ 9223372036854775807 ∧ (∀ j, j < xs.length → w.cell? ⟨g, j, none⟩ = some (.int .u8 (xs.getD j 0)) ∧ w.frozen? ⟨g, j, none⟩ = false) ∧
    ∀ j y, j < xs.length → OwnB (w.setCell ⟨g, j, none⟩ (.int .u8 y)) base v (xs.set j y) := by
  obtain ⟨g, cap, cur, fr, rfl, hb, hh, hfr, h1, h2, h3, h4⟩ := h
  refine ⟨g, cap, rfl, hb, blk_lt hh, h1, by simp only [maxLen] at h2; omega, fun j hj => ⟨?_, ?_⟩, fun j y hj => ?_⟩
  · rw [cell_of_row w g j cur 5 fr hh]
    exact take_get h4 j hj
  · simp only [World.frozen?, hh]
    obtain ⟨lo, hi⟩ := fr
    rcases hfr with hfr | hfr
    · simp only [Prod.mk.injEq] at hfr
      obtain ⟨rfl, rfl⟩ := hfr
      simp
    · simp only at hfr
      simp
      omega
  · refine ⟨g, cap, cur.setIfInBounds j (.int .u8 y), fr, by simp, hb, ?_, by simpa using hfr, by simpa using h1, h2, by simpa using h3, ?_⟩
    · simp only [World.setCell, Array.getElem?_modify, hh]
      simp
    · rw [Array.toList_setIfInBounds, List.length_set, List.take_set, h4]
      simp [nums]
theorem OwnB.to_string (h : OwnB w base v xs) (P : Program) (src dst : TypeId) (hs : P.underlying src = some (.slice 5)) (he : P.underlying 5 = some (.int .u8)) (hd : P.underlying dst = some .string) : (convert src dst v).run P w = .ok (.string (strOfNums xs)) w := by
  obtain ⟨g, cap, rfl, _, _, _, _, hc, _⟩ := h.form
  exact run_convert_bytes_arg w src 5 hs he g 0 xs.length cap xs rfl (fun i hi => by rw [Nat.zero_add]; exact (hc i hi).1) dst hd
end
theorem own_conv (w : World) (s : ByteArray) (hs : s.size ≤ 9223372036854775807) : OwnB (Lib.bytesWorld w 5 s) w.heap.size (.slice (some ⟨w.heap.size, 0, none⟩) s.size (grownCap w s.size 0 5)) (s.data.toList.map fun b => (b.toNat : Int)) := by
  have hz : (Lib.bytesCells w 5 s).size = grownCap w s.size 0 5 := by
    have := grownCap_ge w s.size 0 5
    have h2 : s.data.size = s.size := rfl
    simp only [Lib.bytesCells, Array.size_append, Array.size_map, Array.size_replicate]
    omega
  have hl : (s.data.toList.map fun b => (b.toNat : Int)).length = s.size := List.length_map _
  refine ⟨w.heap.size, _, _, _, by rw [hl], Nat.le_refl _, Lib.bytesWorld_at_new w 5 s, .inr (Nat.le_refl _), by rw [hl]; exact grownCap_ge w s.size 0 5, grownCap_le_maxLen w s.size 0 5 (by unfold maxLen; omega), hz, ?_⟩
  rw [hl]
  simp only [Lib.bytesCells, Array.toList_append, Array.toList_map, nums, List.map_map]
  rw [List.take_left' (by rw [List.length_map]; rfl)]
  rfl
theorem below_conv (w : World) (s : ByteArray) : Below w.heap.size w (Lib.bytesWorld w 5 s) :=
  ⟨rfl, rfl, rfl, by rw [Lib.bytesWorld_size]; omega, fun k hk => Lib.bytesWorld_at_old w 5 s k hk⟩
section
variable {P : Program} {ops : Array Oper} {rest : List Oper} {o : Oper} {a : Act} {Q : Exit → Act → World → Prop}
/-- append(v, y), v bytes of the call's own. -/
theorem append_ownB {W : World} (base : Nat) (hgd : o.guard = none) (s x : Operand) (t : TypeId)
    (ho : o.op = .call { callee := .builtin .append, args := #[s, x], argTypes := #[t, t] })
    (ht : P.underlying t = some (.slice 5)) (hinfo : (P.info? 5).map (fun i => (i.zero, i.size, i.bytes)) = some (some (.int .u8 0), 1, 1))
    (v : Value) (xs : List Int) (y : Int) (hs : a.eval s = v) (hx : a.eval x = .slice (some ⟨W.heap.size, 0, none⟩) 1 1)
    (HO : OwnB W base v xs) (hbase : base ≤ W.heap.size) (hl : xs.length + 1 ≤ 140737488355328)
    (h : ∀ v1 w1, OwnB w1 base v1 (xs ++ [y]) → W.grownBy w1 v.ownBlock → wpList P ops Q rest (a.put o.dst v1) w1) :
    wpList P ops Q (o :: rest) a (W.alloc (.cells #[.int .u8 y] 5)) := by
  obtain ⟨i0, hi, hzz⟩ := Option.map_eq_some_iff.1 hinfo
  simp only [Prod.mk.injEq] at hzz
  obtain ⟨hz0, hz1, hz2⟩ := hzz
  have HO' := HO.alloc (.cells #[.int .u8 y] 5)
  obtain ⟨g, cap, cur, fr, hv, hb, hh, hfr, h1, h2, h3, h4⟩ := HO'
  have hlen : (nums .u8 xs).length = xs.length := nums_length _ _
  have hgW : g < W.heap.size := by
    obtain ⟨g', cap', cur', fr', hv', _, hh', _⟩ := HO
    rw [hv] at hv'
    injection hv' with e1
    injection e1 with e1
    injection e1 with e1
    rw [e1]
    exact blk_lt hh'
  refine wpList_append_arg (W.alloc (.cells #[.int .u8 y] 5)) hgd s x t ho 5 i0 (.int .u8 0) 1 1 ht hi hz0 hz1 hz2 rfl (by decide) g 0 xs.length cap (nums .u8 xs) (hs.trans hv) (by rw [hlen]; omega) ?_ ⟨W.heap.size, 0, none⟩ 1 1 [.int .u8 y] hx rfl
    (World.news_of_block (cs := #[.int .u8 y]) (t := 5) (fr := (0, 0)) (heap_alloc_new W _)) (by simp [Value.oneCell']) ?_ (by simp only [maxLen]; omega) (by omega) ?_ ?_
  · intro j u hu
    have hj : j < xs.length := by rw [← hlen]; exact (List.getElem?_eq_some_iff.1 hu).1
    rw [Nat.zero_add, cell_of_row _ g j cur 5 fr hh, take_get h4 j hj]
    rw [← hu]
    simp [nums, hj, List.getD_eq_getElem?_getD]
  · intro hroom j hj
    have hj0 : j = 0 := by simpa using hj
    subst hj0
    constructor
    · rw [cell_of_row _ g _ cur 5 fr hh, Array.getElem?_eq_getElem (by omega)]
      rfl
    · simp only [World.frozen?, hh]
      obtain ⟨lo, hi2⟩ := fr
      rcases hfr with hfr | hfr
      · simp only [Prod.mk.injEq] at hfr
        obtain ⟨rfl, rfl⟩ := hfr
        simp
      · simp only at hfr
        simp
        omega
  · intro hroom
    refine h _ _ ⟨g, cap, cur.setIfInBounds xs.length (.int .u8 y), fr, by simp, hb, ?_, by simpa using hfr, by simpa using hroom, h2, by simpa using h3, ?_⟩ ?_
    · simp only [World.setCells, Nat.zero_add, Nat.mul_one, World.setCell, Array.getElem?_modify, hh]
      simp
    · rw [Array.toList_setIfInBounds, List.length_append, List.length_singleton]
      have e1 : nums .u8 (xs ++ [y]) = nums .u8 xs ++ [.int .u8 y] := by simp [nums]
      have hct : cur.toList.length = cur.size := Array.length_toList
      have hcl : xs.length < cur.toList.length := by omega
      rw [e1, ← h4, List.take_succ_eq_append_getElem (by simpa using hcl), List.take_set_of_le (Nat.le_refl _)]
      simp
    · refine ⟨rfl, rfl, rfl, by simp [World.setCells, World.setCell], fun k hk hne => ?_⟩
      have hkg : k ≠ g := by
        rw [hv] at hne
        simpa [Value.ownBlock, Ne, eq_comm] using hne
      simp only [World.setCells, Nat.zero_add, Nat.mul_one]
      rw [Below.heap_setCell _ _ _ _ hkg]
      exact Below.heap_alloc _ _ _ hk
  · intro _ v1 w1 hown hg
    have hl1 : (xs ++ [y]).length = xs.length + 1 := by simp
    refine h v1 w1 ?_ ⟨hg.os, hg.tape, hg.output, Nat.le_trans (by simp) hg.size, fun k hk _ => (hg.block k (by simp; omega) (by simp)).trans (Below.heap_alloc _ _ _ hk)⟩
    rcases hown.2 with ⟨_, h0⟩ | ⟨g', cap', cur', hv', hb', hh', r1, r2, r3, r4⟩
    · omega
    · refine ⟨g', cap', cur', (0, 0), by rw [hl1]; exact hv', Nat.le_trans hbase (Nat.le_trans (by simp) hb'), hh', .inl rfl, by rw [hl1]; exact r1, r2, by simpa using r3, ?_⟩
      rw [hl1]
      simpa [nums] using r4
end
end Go.Proofs.YtjepdlmcombmcaaGreatDoor.Lx

/- Capitals: what ToUpper returns. Condition: the text is no longer than a million bytes. -/
namespace Go.Proofs.YtjepdlmcombmcaaGreatDoor.Lx
open Go.RowKit Go.Proofs.YtjepdlmcombmcaaGreatDoorW.PrintWords

/-- The bytes of a text as numbers. -/
def nb (s : ByteArray) : List Int := s.data.toList.map fun b => (b.toNat : Int)
def up (c : Int) : Int := if 97 ≤ c ∧ c ≤ 122 then c - 32 else c
def upS (s : ByteArray) : ByteArray := strOfNums ((nb s).map up)
theorem nb_length (s : ByteArray) : (nb s).length = s.size := List.length_map _
theorem str_nb (s : ByteArray) : strOfNums (nb s) = s := by
  unfold strOfNums nb
  rw [List.map_map]
  have : (fun n : Int => UInt8.ofNat n.toNat) ∘ (fun b : UInt8 => (b.toNat : Int)) = id := by
    funext b
    simp
  rw [this]
  cases s
  simp
theorem nb_get (s : ByteArray) (i : Int) (h0 : 0 ≤ i) (h1 : i < (s.size : Int)) : (nb s)[i.toNat]? = some (bt s i) := by
  have hn : i.toNat < s.size := by omega
  rw [← bt_at s i hn]
  unfold nb
  rw [List.getElem?_map, Array.getElem?_toList, Array.getElem?_eq_getElem hn]
  rfl
theorem pre_succ (s : ByteArray) (i : Int) (h0 : 0 ≤ i) (h1 : i < (s.size : Int)) : (nb s).take (i + 1).toNat = (nb s).take i.toNat ++ [bt s i] := by
  have e : (i + 1).toNat = i.toNat + 1 := by omega
  rw [e, List.take_add_one, nb_get s i h0 h1]
  rfl
theorem pre_length (s : ByteArray) (i : Int) (h1 : i ≤ (s.size : Int)) : ((nb s).take i.toNat).length = i.toNat := by
  rw [List.length_take, nb_length]
  omega
theorem nb_extract (s : ByteArray) (i : Int) : nb (s.extract 0 i.toNat) = (nb s).take i.toNat := by
  unfold nb
  rw [ByteArray.data_extract, Array.toList_extract, List.extract_eq_take_drop]
  simp [List.map_take]

/-- What bs holds when the first i bytes have been seen. -/
def UpRel (s : ByteArray) (B : Nat) (i : Int) (v : Value) (w : World) : Prop :=
  (v = .slice none 0 0 ∧ ((nb s).take i.toNat).map up = (nb s).take i.toNat) ∨ OwnB w B v (((nb s).take i.toNat).map up)

theorem info5 : (Tryz.prog.info? 5).map (fun i => (i.zero, i.size, i.bytes)) = some (some (.int .u8 0), 1, 1) := by kernel_rfl

set_option maxHeartbeats 1000000 in
theorem toUpper_c (s : ByteArray) (w : World) (hs : (s.size : Int) ≤ 1000000) :
    Calls Tryz.prog 89 #[.string s] w fun e w' => e = .returned (.string (upS s)) ∧ Below w.heap.size w w' := by
  have hn1 := fun (W : World) (a : Option Addr) (l c : Nat) => Lib.run_eql_slice_nil (P := Tryz.prog) W 50 5 a l c 0 0 Tryz.underlying50
  have hn2 := fun (W : World) (a : Option Addr) (l c : Nat) => run_neq_slice_nil_any (P := Tryz.prog) W 50 5 a l c 0 0 Tryz.underlying50
  go_enter Tryz.func89, Tryz.ntmps89
  go_wp2
  go_loopg [3, 4] ((s.size : Int).toNat + 1) (fun kq v3 v4 wr => ∃ i : Int, v4 = .int .i64 i ∧ Aside0 (0 ≤ i ∧ i ≤ (s.size : Int) ∧ ((s.size : Int) - i).toNat < kq) ∧ Aside0 (UpRel s w.heap.size i v3 wr) ∧ Aside0 (Below w.heap.size w wr))
  case atStart => exact ⟨0, rfl, ⟨Int.le_refl _, by omega, by omega⟩, ⟨.inl ⟨rfl, by simp⟩⟩, ⟨Below.refl _ _⟩⟩
  case round =>
    obtain ⟨i, rfl, HA, HR, HB⟩ := hrel
    have i0 := HA.out.1
    by_cases hi : i < (s.size : Int)
    · have hx := bt_at s i
      have hb := bt_range s i
      have hb0 := hb.1
      have hb1 := hb.2
      clear hb
      have hi1 : i ≤ (s.size : Int) := by omega
      have hlen : (((nb s).take i.toNat).map up).length + 1 ≤ 140737488355328 := by rw [List.length_map, pre_length s i hi1]; omega
      rcases HR.out with ⟨rfl, hfix⟩ | hown
      · clear HR
        by_cases hc : 97 ≤ bt s i ∧ bt s i ≤ 122
        · obtain ⟨c0, c1⟩ := hc
          have hy : 65 + (bt s i - 97) = up (bt s i) := by unfold up; rw [if_pos ⟨c0, c1⟩]; omega
          have HY := Aside0.mk hy
          clear hy
          obtain ⟨n, cap, W1, hcv, HO, HB1⟩ : ∃ n cap W1, (convert 9 50 (.string (s.extract 0 i.toNat))).run Tryz.prog wr = .ok (.slice (some ⟨wr.heap.size, 0, none⟩) n cap) W1 ∧ OwnB W1 w.heap.size (.slice (some ⟨wr.heap.size, 0, none⟩) n cap) (((nb s).take i.toNat).map up) ∧ Below wr.heap.size wr W1 := by
            refine ⟨_, _, _, Lib.run_convert_string_bytes (P := Tryz.prog) wr 9 50 5 (s.extract 0 i.toNat) Tryz.underlying9 Tryz.underlying50 Tryz.underlying5, ?_, below_conv wr _⟩
            rw [hfix, ← nb_extract s i]
            exact (own_conv wr (s.extract 0 i.toNat) (by rw [ByteArray.size_extract]; omega)).base_le HB.out.size
          have HF := Aside0.mk hfix
          clear hfix
          have hbase : w.heap.size ≤ W1.heap.size := Nat.le_trans HB.out.size HB1.size
          go_wp2_with (first | (at_builtin; refine append_ownB w.heap.size rfl (.tmp 27) (.tmp 31) 50 rfl Tryz.underlying50 info5 _ _ _ rfl rfl HO hbase hlen ?_; intro v1 w1 hown1 hg1))
          go_roundg (((s.size : Int) - (i + 1)).toNat + 1)
          case measure => have := HA.out.2.2; omega
          case rel =>
            refine ⟨i + 1, rfl, ⟨by omega, by omega, by omega⟩, ⟨.inr ?_⟩, ⟨?_⟩⟩
            · rw [pre_succ s i i0 hi, List.map_append, List.map_singleton, ← HY.out]
              exact hown1
            · exact pw_below_grown (HB.out.trans (HB1.mono HB.out.size)) _ hbase hg1 (fun k hk => HO.own_base k hk)
        · have hy : up (bt s i) = bt s i := by unfold up; rw [if_neg hc]
          have HY := Aside0.mk hy
          have HF := Aside0.mk hfix
          clear hy hfix
          have hc' : decide (97 ≤ bt s i) = false ∨ 97 ≤ bt s i ∧ decide (bt s i ≤ 122) = false := by
            by_cases c0 : 97 ≤ bt s i
            · exact .inr ⟨c0, decide_eq_false (fun c1 => hc ⟨c0, c1⟩)⟩
            · exact .inl (decide_eq_false c0)
          clear hc
          have hrel : Aside0 (UpRel s w.heap.size (i + 1) (.slice none 0 0) wr) := ⟨.inl ⟨rfl, by rw [pre_succ s i i0 hi, List.map_append, HF.out, List.map_singleton, HY.out]⟩⟩
          rcases hc' with c0 | ⟨c1, c0⟩
          · go_wp2
            go_roundg (((s.size : Int) - (i + 1)).toNat + 1)
            case measure => have := HA.out.2.2; omega
            case rel => exact ⟨i + 1, rfl, ⟨by omega, by omega, by omega⟩, hrel, HB⟩
          · go_wp2
            go_roundg (((s.size : Int) - (i + 1)).toNat + 1)
            case measure => have := HA.out.2.2; omega
            case rel => exact ⟨i + 1, rfl, ⟨by omega, by omega, by omega⟩, hrel, HB⟩
      · clear HR
        obtain ⟨g, n, cap, rfl⟩ := hown.shape
        have hbase := HB.out.size
        have hrel : ∀ (v1 : Value) (w1 : World), OwnB w1 w.heap.size v1 (((nb s).take i.toNat).map up ++ [up (bt s i)]) → UpRel s w.heap.size (i + 1) v1 w1 := fun v1 w1 h1 => .inr (by rw [pre_succ s i i0 hi, List.map_append, List.map_singleton]; exact h1)
        have HREL := Aside0.mk hrel
        clear hrel
        by_cases hc : 97 ≤ bt s i ∧ bt s i ≤ 122
        · obtain ⟨c0, c1⟩ := hc
          have hy : 65 + (bt s i - 97) = up (bt s i) := by unfold up; rw [if_pos ⟨c0, c1⟩]; omega
          have HY := Aside0.mk hy
          clear hy
          go_wp2_with (first | (at_builtin; refine append_ownB w.heap.size rfl (.tmp 27) (.tmp 31) 50 rfl Tryz.underlying50 info5 _ _ _ rfl rfl hown hbase hlen ?_; intro v1 w1 hown1 hg1))
          go_roundg (((s.size : Int) - (i + 1)).toNat + 1)
          case measure => have := HA.out.2.2; omega
          case rel => exact ⟨i + 1, rfl, ⟨by omega, by omega, by omega⟩, ⟨HREL.out _ _ (by rw [← HY.out]; exact hown1)⟩, ⟨pw_below_grown HB.out _ hbase hg1 (fun k hk => hown.own_base k hk)⟩⟩
        · have hy : up (bt s i) = bt s i := by unfold up; rw [if_neg hc]
          have HY := Aside0.mk hy
          clear hy
          have hc' : decide (97 ≤ bt s i) = false ∨ 97 ≤ bt s i ∧ decide (bt s i ≤ 122) = false := by
            by_cases c0 : 97 ≤ bt s i
            · exact .inr ⟨c0, decide_eq_false (fun c1 => hc ⟨c0, c1⟩)⟩
            · exact .inl (decide_eq_false c0)
          clear hc
          rcases hc' with c0 | ⟨c1, c0⟩
          · go_wp2_with (first | (at_builtin; refine append_ownB w.heap.size rfl (.tmp 35) (.tmp 37) 50 rfl Tryz.underlying50 info5 _ _ _ rfl rfl hown hbase hlen ?_; intro v1 w1 hown1 hg1))
            go_roundg (((s.size : Int) - (i + 1)).toNat + 1)
            case measure => have := HA.out.2.2; omega
            case rel => exact ⟨i + 1, rfl, ⟨by omega, by omega, by omega⟩, ⟨HREL.out _ _ (by rw [HY.out]; exact hown1)⟩, ⟨pw_below_grown HB.out _ hbase hg1 (fun k hk => hown.own_base k hk)⟩⟩
          · go_wp2_with (first | (at_builtin; refine append_ownB w.heap.size rfl (.tmp 35) (.tmp 37) 50 rfl Tryz.underlying50 info5 _ _ _ rfl rfl hown hbase hlen ?_; intro v1 w1 hown1 hg1))
            go_roundg (((s.size : Int) - (i + 1)).toNat + 1)
            case measure => have := HA.out.2.2; omega
            case rel => exact ⟨i + 1, rfl, ⟨by omega, by omega, by omega⟩, ⟨HREL.out _ _ (by rw [HY.out]; exact hown1)⟩, ⟨pw_below_grown HB.out _ hbase hg1 (fun k hk => hown.own_base k hk)⟩⟩
    · have hall : (nb s).take i.toNat = nb s := List.take_of_length_le (by rw [nb_length]; omega)
      rcases HR.out with ⟨rfl, hfix⟩ | hown
      · clear HR
        rw [hall] at hfix
        have HF := Aside0.mk hfix
        clear hfix hall
        go_wp2
        go_ret
        exact ⟨by unfold upS; rw [HF.out, str_nb]; rfl, HB.out⟩
      · clear HR
        rw [hall] at hown
        clear hall
        obtain ⟨g, n, cap, rfl⟩ := hown.shape
        have hts := hown.to_string Tryz.prog 50 9 Tryz.underlying50 Tryz.underlying5 Tryz.underlying9
        go_wp2
        go_ret
        exact ⟨rfl, HB.out⟩
end Go.Proofs.YtjepdlmcombmcaaGreatDoor.Lx

/- The lexer's words (first part): a word whose first letter is none of b, B, r, R. -/
namespace Go.Proofs.YtjepdlmcombmcaaGreatDoor.Lx
open Go.RowKit Go.Proofs.YtjepdlmcombmcaaGreatDoorW.PrintWords

theorem beqf {c k : Int} (h : c ≠ k) : (c == k) = false := by simpa using h
/-- The word from p to q: its text; its kind; what its text is told as. -/
def wordOf (s : ByteArray) (p q : Int) : ByteArray := s.extract p.toNat q.toNat
def wkind (u : ByteArray) : ByteArray := if kw (upS u).toList = true then upS u else ⟨#[60, 105, 100, 101, 110, 116, 62]⟩
def wtxt (u : ByteArray) (t : ByteArray) : ByteArray := if kw (upS u).toList = true then t else u

set_option maxRecDepth 100000 in
set_option maxHeartbeats 1000000 in
theorem tok_word1 (w : World) (b fb : Nat) (x : St) (s : ByteArray) (hL : IsL w b fb x) (hF : IsF w fb s) (hp0 : 0 ≤ x.pos) (hp : x.pos < (s.size : Int)) (hs : (s.size : Int) ≤ 1000000)
    (hc : isLetter (bt s x.pos) = true) (hb : bt s x.pos ≠ 66 ∧ bt s x.pos ≠ 98 ∧ bt s x.pos ≠ 82 ∧ bt s x.pos ≠ 114) :
    Calls Tryz.prog 54 #[.pointer (some ⟨b, 0, none⟩), .bool false] w fun e w' => e = .returned (.tuple #[]) ∧ Ups b w w' ∧
      IsL w' b fb { x with kind := wkind (wordOf s x.pos (run isPart s x.pos)), txt := wtxt (wordOf s x.pos (run isPart s x.pos)) x.txt, pos := run isPart s x.pos } := by
  have hat := hL.at_ hF
  have hd : decide ((s.size : Int) ≤ x.pos) = false := decide_eq_false (by omega)
  have Z1 := hL.free 1
  have Z5 := hL.free 5
  have H1 := hL.c1
  have H5 := hL.c5
  have hl : 97 ≤ bt s x.pos ∧ bt s x.pos ≤ 122 ∨ 65 ≤ bt s x.pos ∧ bt s x.pos ≤ 90 ∨ bt s x.pos = 95 := of_decide_eq_true hc
  have f40 : (bt s x.pos == 40) = false := beqf (by omega)
  have f41 : (bt s x.pos == 41) = false := beqf (by omega)
  have f123 : (bt s x.pos == 123) = false := beqf (by omega)
  have f125 : (bt s x.pos == 125) = false := beqf (by omega)
  have f59 : (bt s x.pos == 59) = false := beqf (by omega)
  have f44 : (bt s x.pos == 44) = false := beqf (by omega)
  have f91 : (bt s x.pos == 91) = false := beqf (by omega)
  have f93 : (bt s x.pos == 93) = false := beqf (by omega)
  have f126 : (bt s x.pos == 126) = false := beqf (by omega)
  have f42 : (bt s x.pos == 42) = false := beqf (by omega)
  have f47 : (bt s x.pos == 47) = false := beqf (by omega)
  have f38 : (bt s x.pos == 38) = false := beqf (by omega)
  have f94 : (bt s x.pos == 94) = false := beqf (by omega)
  have f37 : (bt s x.pos == 37) = false := beqf (by omega)
  have f58 : (bt s x.pos == 58) = false := beqf (by omega)
  have f63 : (bt s x.pos == 63) = false := beqf (by omega)
  have f92 : (bt s x.pos == 92) = false := beqf (by omega)
  have f36 : (bt s x.pos == 36) = false := beqf (by omega)
  have f46 : (bt s x.pos == 46) = false := beqf (by omega)
  have f60 : (bt s x.pos == 60) = false := beqf (by omega)
  have f62 : (bt s x.pos == 62) = false := beqf (by omega)
  have f43 : (bt s x.pos == 43) = false := beqf (by omega)
  have f45 : (bt s x.pos == 45) = false := beqf (by omega)
  have f61 : (bt s x.pos == 61) = false := beqf (by omega)
  have f124 : (bt s x.pos == 124) = false := beqf (by omega)
  have f33 : (bt s x.pos == 33) = false := beqf (by omega)
  have f64 : (bt s x.pos == 64) = false := beqf (by omega)
  have f96 : (bt s x.pos == 96) = false := beqf (by omega)
  have f48 : (bt s x.pos == 48) = false := beqf (by omega)
  have f49 : (bt s x.pos == 49) = false := beqf (by omega)
  have f50 : (bt s x.pos == 50) = false := beqf (by omega)
  have f51 : (bt s x.pos == 51) = false := beqf (by omega)
  have f52 : (bt s x.pos == 52) = false := beqf (by omega)
  have f53 : (bt s x.pos == 53) = false := beqf (by omega)
  have f54 : (bt s x.pos == 54) = false := beqf (by omega)
  have f55 : (bt s x.pos == 55) = false := beqf (by omega)
  have f56 : (bt s x.pos == 56) = false := beqf (by omega)
  have f57 : (bt s x.pos == 57) = false := beqf (by omega)
  have f34 : (bt s x.pos == 34) = false := beqf (by omega)
  have f39 : (bt s x.pos == 39) = false := beqf (by omega)
  have f66 : (bt s x.pos == 66) = false := beqf hb.1
  have f98 : (bt s x.pos == 98) = false := beqf hb.2.1
  have f82 : (bt s x.pos == 82) = false := beqf hb.2.2.1
  have f114 : (bt s x.pos == 114) = false := beqf hb.2.2.2
  clear hl hb
  go_enter Tryz.func54, Tryz.ntmps54
  go_wp2_with (first
    | (go_at_call 69; (with_reducible refine (eof_c b fb s _ _ hat).mono ?_); rintro e w' ⟨rfl, ⟨n1, rfl⟩⟩)
    | (go_at_call 77; (with_reducible refine (peek_c b fb s _ 0 _ (hat.drewN _) hp0 (by omega) (by omega) (by omega) (by omega)).mono ?_); rintro e w' ⟨rfl, ⟨n2, rfl⟩⟩)
    | (go_at_call 82; (with_reducible refine (charIsIdentStart_c _ _).mono ?_); rintro e w' ⟨rfl, rfl⟩))
  go_loopg [10] (((s.size : Int) - x.pos).toNat + 1) (fun kq v10 wr => ∃ i : Int, v10 = .int .i64 i ∧ Aside0 (0 ≤ i ∧ x.pos + i ≤ (s.size : Int) ∧ run isPart s (x.pos + i) = run isPart s x.pos ∧ ((s.size : Int) - (x.pos + i)).toNat < kq) ∧ Drawn0 w wr)
  case atStart => exact ⟨0, rfl, ⟨Int.le_refl _, by omega, by rw [Int.add_zero], by omega⟩, by repeat (first | exact Drawn0.refl _ | apply Drawn0.step)⟩
  case round =>
    obtain ⟨i, rfl, HA, ⟨m1, rfl⟩⟩ := hrel
    have hi0 : 0 ≤ i := HA.out.1
    have hi1 := HA.out.2.1
    by_cases hlt : x.pos + i < (s.size : Int)
    · have hd1 : decide (x.pos + i < (s.size : Int)) = true := decide_eq_true hlt
      by_cases hq : isPart (bt s (x.pos + i)) = true
      · go_wp2_with (first
        | (go_at_call 75; (with_reducible refine (peekOk_c b fb s _ i _ (hat.drewN _) hp0 (by omega) hi0 (by omega)).mono ?_); rintro e w' ⟨rfl, ⟨n4, rfl⟩⟩)
        | (go_at_call 77; (with_reducible refine (peek_c b fb s _ i _ (hat.drewN _) hp0 (by omega) hi0 (by omega) hlt).mono ?_); rintro e w' ⟨rfl, ⟨n5, rfl⟩⟩)
        | (go_at_call 76; (with_reducible refine (charIsIdentPart_c _ _).mono ?_); rintro e w' ⟨rfl, rfl⟩))
        go_roundg (((s.size : Int) - (x.pos + (i + 1))).toNat + 1)
        case measure => have := HA.out.2.2.2; omega
        case rel => exact ⟨i + 1, rfl, ⟨by omega, by omega, by rw [← HA.out.2.2.1, ← Int.add_assoc]; exact (run_step hlt hq).symm, by omega⟩, by repeat (first | exact Drawn0.refl _ | apply Drawn0.step)⟩
      · have hq2 : isPart (bt s (x.pos + i)) = false := by simpa using hq
        have hr : run isPart s x.pos = x.pos + i := by rw [← HA.out.2.2.1]; exact run_stop hq2
        have HR := Aside0.mk hr
        clear hr hq
        by_cases hk : kw (upS (s.extract x.pos.toNat (x.pos + i).toNat)).toList = true
        · go_wp2_with (first
          | (go_at_call 75; (with_reducible refine (peekOk_c b fb s _ i _ (hat.drewN _) hp0 (by omega) hi0 (by omega)).mono ?_); rintro e w' ⟨rfl, ⟨n4, rfl⟩⟩)
          | (go_at_call 77; (with_reducible refine (peek_c b fb s _ i _ (hat.drewN _) hp0 (by omega) hi0 (by omega) hlt).mono ?_); rintro e w' ⟨rfl, ⟨n5, rfl⟩⟩)
          | (go_at_call 76; (with_reducible refine (charIsIdentPart_c _ _).mono ?_); rintro e w' ⟨rfl, rfl⟩)
          | (go_at_call 88; (with_reducible refine (slice_c b fb s _ 0 _ i (hat.drewN _) hp0 (by omega) (by omega) hi0 (by omega) (by omega)).mono ?_); rintro e w' ⟨rfl, ⟨n6, rfl⟩⟩)
          | (go_at_call 72; (with_reducible refine (skipN_c b fb s _ i _ (hat.drewN _) ((hL.drewN _).free 9) hp0 (by omega) hi0 (by omega)).mono ?_); rintro e w' ⟨rfl, rfl⟩)
          | (go_at_call 89; (with_reducible refine (toUpper_c _ _ (by rw [ByteArray.size_extract]; omega)).mono ?_); rintro e W ⟨rfl, hbW⟩; have hLW := ((hL.drewN _).set9 _).below hbW; have hUW := (((Ups.refl b w).drewN _).set 9 _).below hbW; have K1 := hLW.c1; have Y1 := hLW.free 1; have K5 := hLW.c5; have Y5 := hLW.free 5)
          | (go_at_call 90; (with_reducible refine (zzKeyword_c _ _).mono ?_); rintro e w' ⟨rfl, rfl⟩))
          (try simp only [Exit.inBlock, Exit.then]); refine bodyPost_ret (results_none rfl _ _ _) rfl ?_
          exact ⟨rfl, hUW.set 1 _, by rw [HR.out]; unfold wkind wtxt wordOf; rw [if_pos hk, if_pos hk]; exact hLW.set1 _⟩
        · have hk2 : kw (upS (s.extract x.pos.toNat (x.pos + i).toNat)).toList = false := by simpa using hk
          go_wp2_with (first
          | (go_at_call 75; (with_reducible refine (peekOk_c b fb s _ i _ (hat.drewN _) hp0 (by omega) hi0 (by omega)).mono ?_); rintro e w' ⟨rfl, ⟨n4, rfl⟩⟩)
          | (go_at_call 77; (with_reducible refine (peek_c b fb s _ i _ (hat.drewN _) hp0 (by omega) hi0 (by omega) hlt).mono ?_); rintro e w' ⟨rfl, ⟨n5, rfl⟩⟩)
          | (go_at_call 76; (with_reducible refine (charIsIdentPart_c _ _).mono ?_); rintro e w' ⟨rfl, rfl⟩)
          | (go_at_call 88; (with_reducible refine (slice_c b fb s _ 0 _ i (hat.drewN _) hp0 (by omega) (by omega) hi0 (by omega) (by omega)).mono ?_); rintro e w' ⟨rfl, ⟨n6, rfl⟩⟩)
          | (go_at_call 72; (with_reducible refine (skipN_c b fb s _ i _ (hat.drewN _) ((hL.drewN _).free 9) hp0 (by omega) hi0 (by omega)).mono ?_); rintro e w' ⟨rfl, rfl⟩)
          | (go_at_call 89; (with_reducible refine (toUpper_c _ _ (by rw [ByteArray.size_extract]; omega)).mono ?_); rintro e W ⟨rfl, hbW⟩; have hLW := ((hL.drewN _).set9 _).below hbW; have hUW := (((Ups.refl b w).drewN _).set 9 _).below hbW; have K1 := hLW.c1; have Y1 := hLW.free 1; have K5 := hLW.c5; have Y5 := hLW.free 5)
          | (go_at_call 90; (with_reducible refine (zzKeyword_c _ _).mono ?_); rintro e w' ⟨rfl, rfl⟩))
          (try simp only [Exit.inBlock, Exit.then]); refine bodyPost_ret (results_none rfl _ _ _) rfl ?_
          exact ⟨rfl, (hUW.set 1 _).set 5 _, by rw [HR.out]; unfold wkind wtxt wordOf; rw [if_neg hk, if_neg hk]; exact (hLW.set1 _).set5 _⟩
    · have hd1 : decide (x.pos + i < (s.size : Int)) = false := decide_eq_false hlt
      have hr : run isPart s x.pos = x.pos + i := by rw [← HA.out.2.2.1]; exact run_end (by omega)
      have HR := Aside0.mk hr
      clear hr
      by_cases hk : kw (upS (s.extract x.pos.toNat (x.pos + i).toNat)).toList = true
      · go_wp2_with (first
        | (go_at_call 75; (with_reducible refine (peekOk_c b fb s _ i _ (hat.drewN _) hp0 (by omega) hi0 (by omega)).mono ?_); rintro e w' ⟨rfl, ⟨n4, rfl⟩⟩)
        | (go_at_call 77; (with_reducible refine (peek_c b fb s _ i _ (hat.drewN _) hp0 (by omega) hi0 (by omega) hlt).mono ?_); rintro e w' ⟨rfl, ⟨n5, rfl⟩⟩)
        | (go_at_call 76; (with_reducible refine (charIsIdentPart_c _ _).mono ?_); rintro e w' ⟨rfl, rfl⟩)
        | (go_at_call 88; (with_reducible refine (slice_c b fb s _ 0 _ i (hat.drewN _) hp0 (by omega) (by omega) hi0 (by omega) (by omega)).mono ?_); rintro e w' ⟨rfl, ⟨n6, rfl⟩⟩)
        | (go_at_call 72; (with_reducible refine (skipN_c b fb s _ i _ (hat.drewN _) ((hL.drewN _).free 9) hp0 (by omega) hi0 (by omega)).mono ?_); rintro e w' ⟨rfl, rfl⟩)
        | (go_at_call 89; (with_reducible refine (toUpper_c _ _ (by rw [ByteArray.size_extract]; omega)).mono ?_); rintro e W ⟨rfl, hbW⟩; have hLW := ((hL.drewN _).set9 _).below hbW; have hUW := (((Ups.refl b w).drewN _).set 9 _).below hbW; have K1 := hLW.c1; have Y1 := hLW.free 1; have K5 := hLW.c5; have Y5 := hLW.free 5)
        | (go_at_call 90; (with_reducible refine (zzKeyword_c _ _).mono ?_); rintro e w' ⟨rfl, rfl⟩))
        (try simp only [Exit.inBlock, Exit.then]); refine bodyPost_ret (results_none rfl _ _ _) rfl ?_
        exact ⟨rfl, hUW.set 1 _, by rw [HR.out]; unfold wkind wtxt wordOf; rw [if_pos hk, if_pos hk]; exact hLW.set1 _⟩
      · have hk2 : kw (upS (s.extract x.pos.toNat (x.pos + i).toNat)).toList = false := by simpa using hk
        go_wp2_with (first
        | (go_at_call 75; (with_reducible refine (peekOk_c b fb s _ i _ (hat.drewN _) hp0 (by omega) hi0 (by omega)).mono ?_); rintro e w' ⟨rfl, ⟨n4, rfl⟩⟩)
        | (go_at_call 77; (with_reducible refine (peek_c b fb s _ i _ (hat.drewN _) hp0 (by omega) hi0 (by omega) hlt).mono ?_); rintro e w' ⟨rfl, ⟨n5, rfl⟩⟩)
        | (go_at_call 76; (with_reducible refine (charIsIdentPart_c _ _).mono ?_); rintro e w' ⟨rfl, rfl⟩)
        | (go_at_call 88; (with_reducible refine (slice_c b fb s _ 0 _ i (hat.drewN _) hp0 (by omega) (by omega) hi0 (by omega) (by omega)).mono ?_); rintro e w' ⟨rfl, ⟨n6, rfl⟩⟩)
        | (go_at_call 72; (with_reducible refine (skipN_c b fb s _ i _ (hat.drewN _) ((hL.drewN _).free 9) hp0 (by omega) hi0 (by omega)).mono ?_); rintro e w' ⟨rfl, rfl⟩)
        | (go_at_call 89; (with_reducible refine (toUpper_c _ _ (by rw [ByteArray.size_extract]; omega)).mono ?_); rintro e W ⟨rfl, hbW⟩; have hLW := ((hL.drewN _).set9 _).below hbW; have hUW := (((Ups.refl b w).drewN _).set 9 _).below hbW; have K1 := hLW.c1; have Y1 := hLW.free 1; have K5 := hLW.c5; have Y5 := hLW.free 5)
        | (go_at_call 90; (with_reducible refine (zzKeyword_c _ _).mono ?_); rintro e w' ⟨rfl, rfl⟩))
        (try simp only [Exit.inBlock, Exit.then]); refine bodyPost_ret (results_none rfl _ _ _) rfl ?_
        exact ⟨rfl, (hUW.set 1 _).set 5 _, by rw [HR.out]; unfold wkind wtxt wordOf; rw [if_neg hk, if_neg hk]; exact (hLW.set1 _).set5 _⟩
end Go.Proofs.YtjepdlmcombmcaaGreatDoor.Lx
