/- The lexer's blanks: a rune is read off an ASCII text; blanks are passed over. Conditions: the text's bytes are below 128. -/
import Derived.Test.YtjepdlmcombmcaaGreatDoorLc
namespace Go.Proofs.YtjepdlmcombmcaaGreatDoor.Lx
open Go.RowKit Go.Proofs.YtjepdlmcombmcaaGreatDoorW.PrintWords

theorem bt_extract (s : ByteArray) (a c i : Int) (ha : 0 ≤ a) (hi : 0 ≤ i) (hc : a + i < c) (hs : c ≤ (s.size : Int)) : bt (s.extract a.toNat c.toNat) i = bt s (a + i) := by
  have h1 : i.toNat < (s.extract a.toNat c.toNat).size := by rw [ByteArray.size_extract]; omega
  have h2 : (a + i).toNat < s.size := by omega
  rw [← bt_at _ i h1, ← bt_at s (a + i) h2, ByteArray.getElem_extract]
  congr 3
  omega
theorem size_extract (s : ByteArray) (a c : Int) (ha : 0 ≤ a) (hac : a ≤ c) (hs : c ≤ (s.size : Int)) : ((s.extract a.toNat c.toNat).size : Int) = c - a := by
  rw [ByteArray.size_extract]
  omega

theorem ne_empty {t : ByteArray} (h0 : 0 < t.size) : t.toList.isEmpty = false := by
  rw [ByteArray.toList_eq]
  cases t with
  | mk d => cases d with | mk l => cases l with
    | nil => exact absurd h0 (by decide)
    | cons _ _ => rfl
theorem dec_ascii (t : ByteArray) (w : World) (h0 : 0 < t.size) (hc : bt t 0 < 128) :
    Calls Tryz.prog 70 #[.string t] w fun e w' => e = .returned (.tuple #[.int .i32 (bt t 0), .int .i64 1]) ∧ w' = w := by
  have hx : ∀ h : 0 < t.size, ((t[0]'h).toNat : Int) = bt t 0 := bt_at t 0
  have hr := bt_range t 0
  have hr1 := hr.1
  have hr2 := hr.2
  clear hr
  have hn := ne_empty h0
  have hn2 : (!t.toList.isEmpty) = true := by rw [hn]; rfl
  go_enter Tryz.func70, Tryz.ntmps70
  go_wp2
  go_ret2
  exact ⟨rfl, rfl⟩
theorem slow_empty (w : World) :
    Calls Tryz.prog 105 #[.string ⟨#[]⟩] w fun e w' => e = .returned (.tuple #[.int .i32 65533, .int .i64 0]) ∧ w' = w := by
  go_enter Tryz.func105, Tryz.ntmps105
  go_wp2
  go_ret2
  exact ⟨rfl, rfl⟩
theorem dec_empty (w : World) :
    Calls Tryz.prog 70 #[.string ⟨#[]⟩] w fun e w' => e = .returned (.tuple #[.int .i32 65533, .int .i64 0]) ∧ w' = w := by
  go_enter Tryz.func70, Tryz.ntmps70
  go_wp2_with (first | (go_at_call 105; (with_reducible refine (slow_empty _).mono ?_); rintro e w' ⟨rfl, rfl⟩))
  go_ret2
  exact ⟨rfl, rfl⟩

def isSp (c : Int) : Bool := decide (c = 9 ∨ c = 10 ∨ c = 11 ∨ c = 12 ∨ c = 13 ∨ c = 32)
theorem isSpace_c (c : Int) (w : World) (h0 : 0 ≤ c) (h1 : c < 128) :
    Calls Tryz.prog 71 #[.int .i32 c] w fun e w' => e = .returned (.bool (isSp c)) ∧ w' = w := by
  go_enter Tryz.func71, Tryz.ntmps71
  go_wp2
  all_goals (go_ret; refine ⟨ret_bool ?_, rfl⟩; unfold isSp; rw [Bool.eq_iff_iff]; (try simp only [beq_iff_eq, beq_eq_false_iff_ne] at *); simp <;> omega)
theorem dec_at (s : ByteArray) (p : Int) (w : World) (h0 : 0 ≤ p) (h1 : p < (s.size : Int)) (hc : bt s p < 128) :
    Calls Tryz.prog 70 #[.string (s.extract p.toNat s.size)] w fun e w' => e = .returned (.tuple #[.int .i32 (bt s p), .int .i64 1]) ∧ w' = w := by
  have hs : (s.extract p.toNat s.size).size = s.size - p.toNat := by rw [ByteArray.size_extract]; omega
  have hb : bt (s.extract p.toNat s.size) 0 = bt s p := by
    have := bt_extract s p (s.size : Int) 0 h0 (by omega) (by omega) (by omega)
    simpa using this
  have := dec_ascii (s.extract p.toNat s.size) w (by omega) (by omega)
  rwa [hb] at this

theorem skipSpaces_c (w : World) (b fb : Nat) (x : St) (s : ByteArray) (hL : IsL w b fb x) (hF : IsF w fb s) (hA : Ascii s) (hp0 : 0 ≤ x.pos) (hp1 : x.pos ≤ (s.size : Int)) (hs : (s.size : Int) ≤ 1000000) :
    Calls Tryz.prog 51 #[.pointer (some ⟨b, 0, none⟩)] w fun e w' => e = .returned (.tuple #[]) ∧ Ups b w w' ∧ IsL w' b fb { x with pos := run isSp s x.pos } := by
  have hne := hF.ne hL
  go_enter Tryz.func51, Tryz.ntmps51
  go_wp2
  go_loopg [] (((s.size : Int) - x.pos).toNat + 1) (fun kq wr => ∃ q : Int, Aside0 (x.pos ≤ q ∧ q ≤ (s.size : Int) ∧ run isSp s q = run isSp s x.pos ∧ ((s.size : Int) - q).toNat < kq) ∧ Ups b w wr ∧ IsL wr b fb { x with pos := q })
  case atStart => exact ⟨x.pos, ⟨Int.le_refl _, hp1, rfl, by omega⟩, Ups.refl _ _, hL⟩
  case round =>
    obtain ⟨q, HA, hU, hLq⟩ := hrel
    have hFq : IsF wr fb s := hF.ups hU hne
    have hat : At wr b fb s q := hLq.at_ hFq
    have H0 := hat.file
    have H1 := hat.pos
    have H2 := hat.buf
    by_cases hq : q < (s.size : Int)
    · have hd : decide ((s.size : Int) ≤ q) = false := decide_eq_false (by omega)
      have hq0 : 0 ≤ q := by have := HA.out.1; omega
      have hq1 : q ≤ (s.size : Int) := by omega
      have hc := hA q hq0 hq
      have hc0 := (bt_range s q).1
      by_cases hsp : isSp (bt s q) = true
      · go_wp2_with (first | (go_at_call 69; (with_reducible refine (eof_c b fb s q _ hat).mono ?_); rintro e w' ⟨rfl, ⟨nd, rfl⟩⟩))
        go_quiet ((go_at_call 70; exact quiet1 (dec_at s q _ hq0 hq hc) ⟨_, rfl⟩))
        go_wp2_with (first | (go_at_call 71; (with_reducible refine (isSpace_c _ _ hc0 hc).mono ?_); rintro e w' ⟨rfl, rfl⟩) | (go_at_call 72; (with_reducible refine (skipN_c b fb s q 1 _ (hat.drewN _) ((hLq.drewN _).free 9) hq0 (by omega) (by omega) (by omega)).mono ?_); rintro e w' ⟨rfl, rfl⟩))
        go_roundg (((s.size : Int) - (q + 1)).toNat + 1)
        case measure => have := HA.out.2.2.2; omega
        case rel => exact ⟨q + 1, ⟨by have := HA.out.1; omega, by omega, by rw [← HA.out.2.2.1]; exact (run_step hq hsp).symm, by omega⟩, Ups.setCell (hU.drewN _) (.inl rfl) _, hLq.set9 (q + 1)⟩
      · have hsp2 : isSp (bt s q) = false := by simpa using hsp
        clear hsp
        go_wp2_with (first | (go_at_call 69; (with_reducible refine (eof_c b fb s q _ hat).mono ?_); rintro e w' ⟨rfl, ⟨nd, rfl⟩⟩))
        go_quiet ((go_at_call 70; exact quiet1 (dec_at s q _ hq0 hq hc) ⟨_, rfl⟩))
        go_wp2_with (first | (go_at_call 71; (with_reducible refine (isSpace_c _ _ hc0 hc).mono ?_); rintro e w' ⟨rfl, rfl⟩))
        (try simp only [Exit.inBlock, Exit.then]); refine bodyPost_ret (results_none rfl _ _ _) rfl ?_
        have hr : run isSp s x.pos = q := by rw [← HA.out.2.2.1]; exact run_stop hsp2
        exact ⟨rfl, hU.drewN _, by rw [hr]; exact hLq⟩
    · have hd : decide ((s.size : Int) ≤ q) = true := decide_eq_true (by omega)
      go_wp2_with (first | (go_at_call 69; (with_reducible refine (eof_c b fb s q _ hat).mono ?_); rintro e w' ⟨rfl, ⟨nd, rfl⟩⟩))
      go_end0
      have hr : run isSp s x.pos = q := by rw [← HA.out.2.2.1]; exact run_end (by omega)
      exact ⟨rfl, hU.drewN _, by rw [hr]; exact hLq⟩
end Go.Proofs.YtjepdlmcombmcaaGreatDoor.Lx
