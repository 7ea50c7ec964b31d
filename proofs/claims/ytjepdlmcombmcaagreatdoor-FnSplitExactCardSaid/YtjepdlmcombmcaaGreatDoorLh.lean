/- The lexer's next token where no blank and no comment stands ahead of it. Conditions: the text's bytes are below 128, none is a blank or may begin a comment. -/
import Derived.Test.YtjepdlmcombmcaaGreatDoorGa
import Derived.StillTailTactics
namespace Go.Proofs.YtjepdlmcombmcaaGreatDoor.Lx
open Go.RowKit Go.Proofs.YtjepdlmcombmcaaGreatDoorW.PrintWords

/-- No byte is a blank or may begin a comment. -/
def Dense (s : ByteArray) : Prop := ∀ i : Int, 0 ≤ i → i < (s.size : Int) → bt s i < 128 ∧ isSp (bt s i) = false ∧ bt s i ≠ 35 ∧ bt s i ≠ 45 ∧ bt s i ≠ 47

theorem skipComment_none (w : World) (b fb : Nat) (x : St) (s : ByteArray) (hL : IsL w b fb x) (hF : IsF w fb s) (hA : Dense s) (hp0 : 0 ≤ x.pos) (hp1 : x.pos ≤ (s.size : Int)) :
    Calls Tryz.prog 52 #[.pointer (some ⟨b, 0, none⟩), .bool false] w fun e w' => e = .returned (.bool false) ∧ Drawn0 w w' := by
  have hat := hL.at_ hF
  have H0 := hat.file
  have H1 := hat.pos
  have H2 := hat.buf
  by_cases hlt : x.pos < (s.size : Int)
  · have hh := hA x.pos hp0 hlt
    have hc := hh.1
    have e35 : (bt s x.pos == 35) = false := by simpa using hh.2.2.1
    have e45 : (bt s x.pos == 45) = false := by simpa using hh.2.2.2.1
    have e47 : (bt s x.pos == 47) = false := by simpa using hh.2.2.2.2
    clear hh
    go_enter Tryz.func52, Tryz.ntmps52
    go_wp2
    go_quiet ((go_at_call 70; exact quiet1 (dec_at s _ _ hp0 hlt hc) ⟨_, rfl⟩))
    go_wp2
    go_ret
    exact ⟨rfl, by repeat (first | exact Drawn0.refl _ | apply Drawn0.step)⟩
  · have he : x.pos = (s.size : Int) := by omega
    have hx : s.extract x.pos.toNat s.size = ⟨#[]⟩ := by
      apply ByteArray.ext
      rw [ByteArray.data_extract]
      apply Array.ext
      · have : s.data.size = s.size := rfl
        simp
        omega
      · intro i h1 h2
        simp at h2
    have hsl : ∀ W, (Instr.slice 9 (.string s) (some (.int .i64 x.pos)) none none).run Tryz.prog W = .ok (.string ⟨#[]⟩) W := by
      intro W
      rw [← hx, run_slice_string_from_if W 9 s .i64 x.pos Tryz.underlying9, if_pos ⟨hp0, hp1⟩]
    clear hx he hlt hp1
    go_enter Tryz.func52, Tryz.ntmps52
    go_wp2
    go_quiet ((go_at_call 70; exact quiet1 (dec_empty _) ⟨_, rfl⟩))
    go_wp2
    go_ret
    exact ⟨rfl, by repeat (first | exact Drawn0.refl _ | apply Drawn0.step)⟩

theorem run_dense {s : ByteArray} (hA : Dense s) {p : Int} (h0 : 0 ≤ p) (h1 : p ≤ (s.size : Int)) : run isSp s p = p := by
  by_cases h : p < (s.size : Int)
  · exact run_stop (hA p h0 h).2.1
  · exact run_end (by omega)
theorem Dense.ascii {s : ByteArray} (hA : Dense s) : Ascii s := fun i h0 h1 => (hA i h0 h1).1
theorem skipSpaces_none (w : World) (b fb : Nat) (x : St) (s : ByteArray) (hL : IsL w b fb x) (hF : IsF w fb s) (hA : Dense s) (hp0 : 0 ≤ x.pos) (hp1 : x.pos ≤ (s.size : Int)) (hs : (s.size : Int) ≤ 1000000) :
    Calls Tryz.prog 51 #[.pointer (some ⟨b, 0, none⟩)] w fun e w' => e = .returned (.tuple #[]) ∧ Ups b w w' ∧ IsL w' b fb x := by
  have h := skipSpaces_c w b fb x s hL hF hA.ascii hp0 hp1 hs
  rw [run_dense hA hp0 hp1] at h
  exact h

/-- The state at the loop's head. -/
def St.clear (x : St) : St := { x with last := x.kind, kind := ⟨#[]⟩, com := .slice none 0 0, space := ⟨#[]⟩, raw := ⟨#[]⟩, txt := ⟨#[]⟩, base := 0, tp := 0, te := 0 }
theorem clear_of {w : World} {b fb : Nat} {x : St} (hL : IsL w b fb x) :
    Ups b w (((((((((w.setCell ⟨b, 10, none⟩ (.string x.kind)).setCell ⟨b, 1, none⟩ (.string ⟨#[]⟩)).setCell ⟨b, 2, none⟩ (.slice none 0 0)).setCell ⟨b, 3, none⟩ (.string ⟨#[]⟩)).setCell ⟨b, 4, none⟩ (.string ⟨#[]⟩)).setCell ⟨b, 5, none⟩ (.string ⟨#[]⟩)).setCell ⟨b, 6, none⟩ (.int .i64 0)).setCell ⟨b, 7, none⟩ (.int .i64 0)).setCell ⟨b, 8, none⟩ (.int .i64 0)) ∧
    IsL (((((((((w.setCell ⟨b, 10, none⟩ (.string x.kind)).setCell ⟨b, 1, none⟩ (.string ⟨#[]⟩)).setCell ⟨b, 2, none⟩ (.slice none 0 0)).setCell ⟨b, 3, none⟩ (.string ⟨#[]⟩)).setCell ⟨b, 4, none⟩ (.string ⟨#[]⟩)).setCell ⟨b, 5, none⟩ (.string ⟨#[]⟩)).setCell ⟨b, 6, none⟩ (.int .i64 0)).setCell ⟨b, 7, none⟩ (.int .i64 0)).setCell ⟨b, 8, none⟩ (.int .i64 0)) b fb x.clear :=
  ⟨(((((((((Ups.refl b w).set 10 _).set 1 _).set 2 _).set 3 _).set 4 _).set 5 _).set 6 _).set 7 _).set 8 _, ((((((((hL.set10 _).set1 _).set2 _).set3 _).set4 _).set5 _).set6 _).set7 _).set8 _⟩
/-- The state in which the token's own bytes are read. -/
def St.ready (x : St) (sp : ByteArray) : St := { x.clear with space := sp, tp := x.pos }
theorem ready_of {w : World} {b fb : Nat} {x : St} (h : IsL w b fb x.clear) (sp : ByteArray) : IsL ((w.setCell ⟨b, 3, none⟩ (.string sp)).setCell ⟨b, 7, none⟩ (.int .i64 x.pos)) b fb (x.ready sp) := (h.set3 sp).set7 x.pos
theorem IsF.set {w : World} {fb b : Nat} {s : ByteArray} (h : IsF w fb s) (hn : fb ≠ b) (i : Nat) (v : Value) : IsF (w.setCell ⟨b, i, none⟩ v) fb s := by
  obtain ⟨path, lines, h⟩ := h
  exact ⟨path, lines, blk_far h hn v⟩
set_option maxRecDepth 100000 in
set_option maxHeartbeats 2000000 in
theorem next_dense (w : World) (b fb : Nat) (x : St) (s : ByteArray) (K T : ByteArray) (q : Int) (hL : IsL w b fb x) (hF : IsF w fb s) (hA : Dense s) (hp0 : 0 ≤ x.pos) (hp1 : x.pos ≤ (s.size : Int)) (hs : (s.size : Int) ≤ 1000000) (hdot : x.dot = false)
    (hpq : x.pos ≤ q) (hq : q ≤ (s.size : Int))
    (hTok : ∀ W sp, IsL W b fb (x.ready sp) → IsF W fb s → Calls Tryz.prog 54 #[.pointer (some ⟨b, 0, none⟩), .bool false] W fun e w' => e = .returned (.tuple #[]) ∧ Ups b W w' ∧ IsL w' b fb { x.ready sp with kind := K, txt := T, pos := q }) :
    Calls Tryz.prog 34 #[.pointer (some ⟨b, 0, none⟩), .bool false] w fun e w' => e = .returned (.tuple #[]) ∧ Ups b w w' ∧
      ∃ sp, IsL w' b fb { x.ready sp with kind := K, txt := T, pos := q, raw := s.extract x.pos.toNat q.toNat, te := q } := by
  have hne := hF.ne hL
  have H1 := hL.c1
  have H2 := hL.c2
  have H3 := hL.c3
  have H4 := hL.c4
  have H5 := hL.c5
  have H6 := hL.c6
  have H7 := hL.c7
  have H8 := hL.c8
  have H10 := hL.c10
  have Z := fun i => hL.free i
  have HT := Aside0.mk hTok
  clear hTok
  go_enter Tryz.func34, Tryz.ntmps34
  go_wp2
  go_loopg [] 1 (fun kq wr => Aside0 (kq = 1) ∧ Ups b w wr ∧ IsL wr b fb x.clear)
  case atStart => exact ⟨⟨rfl⟩, (clear_of hL).1, (clear_of hL).2⟩
  case round =>
    obtain ⟨_, hU, hLr⟩ := hrel
    clear H1 H2 H3 H4 H5 H6 H7 H8 H10 Z
    have hFr : IsF wr fb s := hF.ups hU hne
    have p0 : 0 ≤ x.clear.pos := hp0
    have p1 : x.clear.pos ≤ (s.size : Int) := hp1
    have R9 : wr.cell? ⟨b, 9, none⟩ = some (.int .i64 x.pos) := hLr.c9
    go_wp2_with (first
      | (go_at_call 51; (with_reducible refine (skipSpaces_none _ b fb _ s hLr hFr hA p0 p1 hs).mono ?_); rintro e w1 ⟨rfl, hU1, hL1⟩; have A0 := hL1.c0; have A9 : w1.cell? ⟨b, 9, none⟩ = some (.int .i64 x.pos) := hL1.c9; have hF1 := hFr.ups hU1 hne; have A1 := hF1.buf))
    go_quiet (fail)
    have A3 : w1.cell? ⟨b, 3, none⟩ = some (.string ⟨#[]⟩) := hL1.c3
    have A7 : w1.cell? ⟨b, 7, none⟩ = some (.int .i64 0) := hL1.c7
    have A11 : w1.cell? ⟨b, 11, none⟩ = some (.bool false) := by rw [← hdot]; exact hL1.c11
    have Z3 := hL1.free 3
    have Z7 := hL1.free 7
    go_wp2_with (first
      | (go_at_call 52; (with_reducible refine (skipComment_none _ b fb _ s (hL1.drewN _) (hF1.drewN _) hA p0 p1).mono ?_); rintro e w' ⟨rfl, ⟨m2, rfl⟩⟩)
      | (go_at_call 54; (with_reducible refine (HT.out _ _ (ready_of (hL1.drewN _) _) (((hF1.drewN _).set hne 3 _).set hne 7 _)).mono ?_); rintro e w2 ⟨rfl, hU2, hL2⟩; have B0 := hL2.c0; have B9 : w2.cell? ⟨b, 9, none⟩ = some (.int .i64 q) := hL2.c9; have hF2 := (((hF1.drewN _).set hne 3 _).set hne 7 _).ups hU2 hne; have B1 := hF2.buf; have B4 := hL2.c4; have B8 := hL2.c8; have Y4 := hL2.free 4; have Y8 := hL2.free 8))
    go_still_tail 17, (by kernel_rfl)
    go_wp2
    go_end0
    have hUa : Ups b w w2 := (((((hU.trans hU1).drewN _).set 3 _).set 7 _).trans hU2)
    exact ⟨rfl, ((hUa.drew).set 4 _).set 8 _, _, (hL2.drew.set4 _).set8 _⟩
end Go.Proofs.YtjepdlmcombmcaaGreatDoor.Lx
