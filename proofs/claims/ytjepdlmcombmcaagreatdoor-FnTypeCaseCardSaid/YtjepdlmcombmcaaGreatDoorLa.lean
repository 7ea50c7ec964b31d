/- The lexer's small methods: what each call returns, and what becomes of the world. Conditions: the lexer's block and its file's block lie as said. -/
import Derived.Test.YtjepdlmcombmcaaGreatDoorProg
import Derived.Test.YtjepdlmcombmcaaGreatDoorWWords
import Derived.WalkSpells
import Derived.WalkLawsBesides
namespace Go.Proofs.YtjepdlmcombmcaaGreatDoor.Lx
open Go.RowKit Go.Proofs.YtjepdlmcombmcaaGreatDoorW.PrintWords

/-- The lexer at block b reads the text s of the file at block fb, and stands at p. -/
structure At (w : World) (b fb : Nat) (s : ByteArray) (p : Int) : Prop where
  file : w.cell? ⟨b, 0, none⟩ = some (.pointer (some ⟨fb, 0, none⟩))
  pos : w.cell? ⟨b, 9, none⟩ = some (.int .i64 p)
  buf : w.cell? ⟨fb, 1, none⟩ = some (.string s)
theorem At.drewN {w : World} {b fb : Nat} {s : ByteArray} {p : Int} (h : At w b fb s p) (n : Nat) : At (w.drewN n) b fb s p := ⟨h.file, h.pos, h.buf⟩

theorem iwrap (x : Int) (h0 : -9223372036854775808 ≤ x) (h1 : x ≤ 9223372036854775807) : IntKind.i64.wrap x = x := IntWalk.i64_in x (by omega)

theorem ext_over (s : ByteArray) (a b c : Nat) (hb : s.size ≤ b) (hc : s.size ≤ c) : s.extract a b = s.extract a c := by
  apply ByteArray.ext
  rw [ByteArray.data_extract, ByteArray.data_extract]
  apply Array.ext
  · have : s.data.size = s.size := rfl
    simp; omega
  · intro i h1 h2
    simp

section
variable (b fb : Nat) (s : ByteArray) (p i : Int) (w : World)

theorem eof_c (h : At w b fb s p) :
    Calls Tryz.prog 69 #[.pointer (some ⟨b, 0, none⟩)] w fun e w' => e = .returned (.bool (decide ((s.size : Int) ≤ p))) ∧ Drawn0 w w' := by
  obtain ⟨h0, h1, h2⟩ := h
  go_enter Tryz.func69, Tryz.ntmps69
  go_wp2
  go_quiet (fail)
  go_wp2
  go_ret
  exact ⟨rfl, ⟨_, rfl⟩⟩

theorem peekOk_c (h : At w b fb s p) (hp0 : 0 ≤ p) (hp1 : p ≤ 1000000) (hi0 : 0 ≤ i) (hi1 : i ≤ 1000000) :
    Calls Tryz.prog 75 #[.pointer (some ⟨b, 0, none⟩), .int .i64 i] w fun e w' => e = .returned (.bool (decide (p + i < (s.size : Int)))) ∧ Drawn0 w w' := by
  obtain ⟨h0, h1, h2⟩ := h
  have e1 : IntKind.i64.wrap (p + i) = p + i := iwrap _ (by omega) (by omega)
  go_enter Tryz.func75, Tryz.ntmps75
  go_wp2
  go_quiet (fail)
  go_wp2
  go_ret
  exact ⟨rfl, ⟨_, rfl⟩⟩

theorem peek_c (h : At w b fb s p) (hp0 : 0 ≤ p) (hp1 : p ≤ 1000000) (hi0 : 0 ≤ i) (hi1 : i ≤ 1000000) (hlt : p + i < (s.size : Int)) :
    Calls Tryz.prog 77 #[.pointer (some ⟨b, 0, none⟩), .int .i64 i] w fun e w' => e = .returned (.int .u8 (bt s (p + i))) ∧ Drawn0 w w' := by
  obtain ⟨h0, h1, h2⟩ := h
  have hx := bt_at s (p + i)
  have e0 : 0 ≤ p + i := by omega
  have e1 : IntKind.i64.wrap (p + i) = p + i := iwrap _ (by omega) (by omega)
  go_enter Tryz.func77, Tryz.ntmps77
  go_wp2
  go_quiet (fail)
  go_wp2
  go_ret
  exact ⟨rfl, ⟨_, rfl⟩⟩

theorem peekIs_c (c : Int) (h : At w b fb s p) (hp0 : 0 ≤ p) (hp1 : p ≤ 1000000) (hi0 : 0 ≤ i) (hi1 : i ≤ 1000000) :
    Calls Tryz.prog 73 #[.pointer (some ⟨b, 0, none⟩), .int .i64 i, .int .u8 c] w fun e w' => e = .returned (.bool (decide (p + i < (s.size : Int)) && (bt s (p + i) == c))) ∧ Drawn0 w w' := by
  obtain ⟨h0, h1, h2⟩ := h
  have hx := bt_at s (p + i)
  have e0 : 0 ≤ p + i := by omega
  have e1 : IntKind.i64.wrap (p + i) = p + i := iwrap _ (by omega) (by omega)
  by_cases hlt : p + i < (s.size : Int)
  · go_enter Tryz.func73, Tryz.ntmps73
    go_wp2
    go_quiet (fail)
    go_wp2
    go_ret
    exact ⟨by simp [hlt], ⟨_, rfl⟩⟩
  · have hd : decide (p + i < (s.size : Int)) = false := decide_eq_false hlt
    go_enter Tryz.func73, Tryz.ntmps73
    go_wp2
    go_quiet (fail)
    go_wp2
    go_ret
    exact ⟨by rw [hd]; rfl, ⟨_, rfl⟩⟩

theorem skipN_c (h : At w b fb s p) (hz : w.frozen? ⟨b, 9, none⟩ = false) (hp0 : 0 ≤ p) (hp1 : p ≤ 1000000) (hi0 : 0 ≤ i) (hi1 : i ≤ 1000000) :
    Calls Tryz.prog 72 #[.pointer (some ⟨b, 0, none⟩), .int .i64 i] w fun e w' => e = .returned (.tuple #[]) ∧ w' = w.setCell ⟨b, 9, none⟩ (.int .i64 (p + i)) := by
  obtain ⟨h0, h1, h2⟩ := h
  go_enter Tryz.func72, Tryz.ntmps72
  go_wp2
  go_end0
  exact ⟨rfl, rfl⟩

theorem skip_c (h : At w b fb s p) (hz : w.frozen? ⟨b, 9, none⟩ = false) (hp0 : 0 ≤ p) (hp1 : p ≤ 1000000) (hlt : p < (s.size : Int)) :
    Calls Tryz.prog 78 #[.pointer (some ⟨b, 0, none⟩)] w fun e w' => e = .returned (.int .u8 (bt s p)) ∧ ∃ m, w' = (w.drewN m).setCell ⟨b, 9, none⟩ (.int .i64 (p + 1)) := by
  obtain ⟨h0, h1, h2⟩ := h
  have hx := bt_at s p
  go_enter Tryz.func78, Tryz.ntmps78
  go_wp2
  go_quiet (fail)
  go_wp2
  go_ret
  exact ⟨rfl, ⟨_, rfl⟩⟩

theorem slice_c (j : Int) (h : At w b fb s p) (hp0 : 0 ≤ p) (hp1 : p ≤ 1000000) (hi0 : 0 ≤ i) (hij : i ≤ j) (hj1 : j ≤ 1000000) (hlt : p + i ≤ (s.size : Int)) :
    Calls Tryz.prog 88 #[.pointer (some ⟨b, 0, none⟩), .int .i64 i, .int .i64 j] w fun e w' => e = .returned (.string (s.extract (p + i).toNat (p + j).toNat)) ∧ Drawn0 w w' := by
  obtain ⟨h0, h1, h2⟩ := h
  have e1 : IntKind.i64.wrap (p + i) = p + i := iwrap _ (by omega) (by omega)
  have e2 : IntKind.i64.wrap (p + j) = p + j := iwrap _ (by omega) (by omega)
  have e3 : 0 ≤ p + i := by omega
  have e4 : 0 ≤ p + j := by omega
  have e5 : p + i ≤ p + j := by omega
  by_cases hj : p + j ≤ (s.size : Int)
  · have hd : decide ((s.size : Int) < p + j) = false := decide_eq_false (by omega)
    go_enter Tryz.func88, Tryz.ntmps88
    go_wp2
    go_quiet (fail)
    go_wp2
    go_quiet (fail)
    go_wp2
    go_ret
    exact ⟨rfl, by repeat (first | exact Drawn0.refl _ | apply Drawn0.step)⟩
  · have hd : decide ((s.size : Int) < p + j) = true := decide_eq_true (by omega)
    go_enter Tryz.func88, Tryz.ntmps88
    go_wp2
    go_quiet (fail)
    go_wp2
    go_quiet (fail)
    go_wp2
    go_quiet (fail)
    go_wp2
    go_ret
    exact ⟨by rw [ext_over s (p + i).toNat (p + j).toNat (p + ((s.size : Int) - p)).toNat (by omega) (by omega)]; rfl, by repeat (first | exact Drawn0.refl _ | apply Drawn0.step)⟩
end
end Go.Proofs.YtjepdlmcombmcaaGreatDoor.Lx
