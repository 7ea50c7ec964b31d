/- Literals: what peekDelimiter and the four readers of literals leave. Conditions: the lexer's state; a quotation mark stands at its place. -/
import Derived.Test.YtjepdlmcombmcaaGreatDoorNv
import Derived.Test.YtjepdlmcombmcaaGreatDoorGb
namespace Go.Proofs.YtjepdlmcombmcaaGreatDoor.Lx
open Go.RowKit Go.Proofs.YtjepdlmcombmcaaGreatDoorW.PrintWords

theorem mark1 (s : ByteArray) (c : UInt8) (n : Int) (hn : (c.toNat : Int) = n) (hc : c.toNat ≠ 0) : Mark s ⟨#[c]⟩ n 1 := by
  refine ⟨rfl, .inl rfl, by omega, fun i h0 h1 => ?_⟩
  have e1 : (⟨#[c]⟩ : ByteArray).toList = [c] := ByteArray.toList_mk [c]
  rw [e1, cut1 s i c h0 h1 hc, hn]
  unfold isQ
  simp
theorem mark3 (s : ByteArray) (c : UInt8) (n : Int) (hn : (c.toNat : Int) = n) (hc : c.toNat ≠ 0) : Mark s ⟨#[c, c, c]⟩ n 3 := by
  refine ⟨rfl, .inr rfl, by omega, fun i h0 h1 => ?_⟩
  have e1 : (⟨#[c, c, c]⟩ : ByteArray).toList = [c, c, c] := ByteArray.toList_mk [c, c, c]
  rw [e1, cut3 s i c h0 h1 hc, hn]
  unfold isQ
  rw [show ((3 : Int) == 1) = false from rfl, Bool.false_or]
theorem ne_size {a : ByteArray} {l : List UInt8} (h : a.size ≠ l.length) : (a.toList == l) = false := by
  rw [beq_eq_false_iff_ne]
  intro he
  have := list_size a
  rw [he] at this
  omega
theorem conv_one (W : World) (c : Int) : (convert 50 9 (.slice (some ⟨W.heap.size, 0, none⟩) 1 1)).run Tryz.prog (W.alloc (.cells #[.int .u8 c] 5)) = .ok (.string (strOfNums [c])) (W.alloc (.cells #[.int .u8 c] 5)) :=
  run_convert_bytes_arg _ 50 5 Tryz.underlying50 Tryz.underlying5 W.heap.size 0 1 1 [c] rfl (fun i hi => by
    have : i = 0 := by omega
    subst this
    exact (blk_cell (blk_new W _) 0).trans rfl) 9 Tryz.underlying9
/-- What peekDelimiter returns: the closing mark of the literal that begins at the lexer's place. -/
def Delim (s : ByteArray) (c p : Int) (w : World) (e : Ending) (w' : World) : Prop :=
  (∃ q, e = .returned (.string q) ∧ Mark s q c (markLen s c p)) ∧ Below w.heap.size w w'

set_option maxRecDepth 100000 in
set_option maxHeartbeats 1000000 in
theorem delim34 (w : World) (b fb : Nat) (s : ByteArray) (p : Int) (hat : At w b fb s p) (hp0 : 0 ≤ p) (hp : p < (s.size : Int)) (hs : (s.size : Int) ≤ 5000) (hc : bt s p = 34) :
    Calls Tryz.prog 114 #[.pointer (some ⟨b, 0, none⟩)] w (Delim s 34 p w) := by
  have hcv := fun (m : Nat) (d : Int) => (show (convert 50 9 (.slice (some ⟨w.heap.size, 0, none⟩) 1 1)).run Tryz.prog ((w.drewN m).alloc (.cells #[.int .u8 d] 5)) = .ok (.string (strOfNums [d])) ((w.drewN m).alloc (.cells #[.int .u8 d] 5)) from conv_one (w.drewN m) d)
  go_enter Tryz.func114, Tryz.ntmps114
  go_upto_block 0 with (first
      | (go_at_call 77; (first | (with_reducible refine (peek_c b fb s p _ _ hat hp0 (by omega) (by omega) (by omega) (by omega)).mono ?_) | (with_reducible refine (peek_c b fb s p _ _ (hat.drewN _) hp0 (by omega) (by omega) (by omega) (by omega)).mono ?_)); rintro e w' ⟨rfl, ⟨n5, rfl⟩⟩))
  go_cut [5] (fun s5 wx => s5 = .bool (decide (markLen s 34 p = 3)) ∧ Drawn0 w wx)
  case first =>
    go_wp2_with fail
    go_loopg [3, 5] 3 (fun kq v3 v5 wr => ∃ i : Nat, v3 = .int .i64 i ∧ v5 = .bool true ∧ Aside0 (1 ≤ i ∧ i ≤ 3 ∧ 3 - i < kq ∧ (2 ≤ i → bt s (p + 1) = 34) ∧ (3 ≤ i → bt s (p + 2) = 34)) ∧ Drawn0 w wr)
    case atStart => exact ⟨1, rfl, rfl, ⟨by omega, by omega, by omega, fun h => by omega, fun h => by omega⟩, by repeat (first | exact Drawn0.refl _ | apply Drawn0.step)⟩
    case round =>
      obtain ⟨i, rfl, rfl, HA, ⟨m1, rfl⟩⟩ := hrel
      have i0 := HA.out.1
      have i1 := HA.out.2.1
      have hw := iwrap ((i : Int) + 1) (by omega) (by omega)
      by_cases hi : (i : Int) < 3
      · have hd : decide ((i : Int) < 3) = true := decide_eq_true hi
        have HI := Aside0.mk (show (i : Int) = 1 ∨ (i : Int) = 2 by omega)
        cases hq : (bt s (p + (i : Int)) == 34) with
        | true =>
          have HQ := Aside0.mk (beq_iff_eq.1 hq)
          go_wp2_with (first
              | (go_at_call 73; (first | (with_reducible refine (peekIs0_c b fb s p _ _ 34 (by omega) hat hp0 (by omega) (by omega) (by omega)).mono ?_) | (with_reducible refine (peekIs0_c b fb s p _ _ 34 (by omega) (hat.drewN _) hp0 (by omega) (by omega) (by omega)).mono ?_)); rintro e w' ⟨rfl, ⟨n3, rfl⟩⟩))
          go_roundg (3 - i)
          case measure => have := HA.out.2.2.1; omega
          case rel =>
            refine ⟨i + 1, rfl, rfl, ⟨by omega, by omega, by omega, fun h => ?_, fun h => ?_⟩, by repeat (first | exact Drawn0.refl _ | apply Drawn0.step)⟩
            · rcases HI.out with h1 | h1
              · have h2 := HQ.out; rw [h1] at h2; exact h2
              · exact HA.out.2.2.2.1 (by omega)
            · rcases HI.out with h1 | h1
              · omega
              · have h2 := HQ.out; rw [h1] at h2; exact h2
        | false =>
          have HQ := Aside0.mk (ne_of_beq_false hq)
          go_wp2_with (first
              | (go_at_call 73; (first | (with_reducible refine (peekIs0_c b fb s p _ _ 34 (by omega) hat hp0 (by omega) (by omega) (by omega)).mono ?_) | (with_reducible refine (peekIs0_c b fb s p _ _ 34 (by omega) (hat.drewN _) hp0 (by omega) (by omega) (by omega)).mono ?_)); rintro e w' ⟨rfl, ⟨n3, rfl⟩⟩))
          go_meet
          refine ⟨?_, by repeat (first | exact Drawn0.refl _ | apply Drawn0.step)⟩
          rw [decide_eq_false]
          unfold markLen
          rw [if_neg]
          · decide
          · intro hh
            simp only [Bool.and_eq_true, beq_iff_eq] at hh
            rcases HI.out with h1 | h1
            · have h2 := HQ.out; rw [h1] at h2; exact h2 hh.1.2
            · have h2 := HQ.out; rw [h1] at h2; exact h2 hh.2
      · have hd : decide ((i : Int) < 3) = false := decide_eq_false hi
        have h1 := HA.out.2.2.2.1 (by omega)
        have h2 := HA.out.2.2.2.2 (by omega)
        have HL : Aside0 (markLen s 34 p = 3) := ⟨by unfold markLen; rw [if_pos]; rw [h1, h2]; rfl⟩
        clear h1 h2
        go_wp2_with fail
        go_meet
        exact ⟨by rw [HL.out]; rfl, by repeat (first | exact Drawn0.refl _ | apply Drawn0.step)⟩
  case rest =>
    obtain ⟨rfl, ⟨m, rfl⟩⟩ := hcut
    rcases markLen_is s 34 p with hL | hL
    · have hd : decide (markLen s 34 p = 3) = false := by rw [hL]; rfl
      have HL := Aside0.mk hL
      clear hL
      go_wp2_with fail
      go_ret
      exact ⟨⟨_, rfl, by rw [HL.out]; exact mark1 s 34 34 rfl (by decide)⟩, (below_drewN (Below.refl _ w) _).alloc (Nat.le_refl _) _⟩
    · have hd : decide (markLen s 34 p = 3) = true := by rw [hL]; rfl
      have HL := Aside0.mk hL
      clear hL
      go_wp2_with fail
      go_ret
      exact ⟨⟨_, rfl, by rw [HL.out]; exact mark3 s 34 34 rfl (by decide)⟩, below_drewN (Below.refl _ w) _⟩

set_option maxRecDepth 100000 in
set_option maxHeartbeats 1000000 in
theorem delim39 (w : World) (b fb : Nat) (s : ByteArray) (p : Int) (hat : At w b fb s p) (hp0 : 0 ≤ p) (hp : p < (s.size : Int)) (hs : (s.size : Int) ≤ 5000) (hc : bt s p = 39) :
    Calls Tryz.prog 114 #[.pointer (some ⟨b, 0, none⟩)] w (Delim s 39 p w) := by
  have hcv := fun (m : Nat) (d : Int) => (show (convert 50 9 (.slice (some ⟨w.heap.size, 0, none⟩) 1 1)).run Tryz.prog ((w.drewN m).alloc (.cells #[.int .u8 d] 5)) = .ok (.string (strOfNums [d])) ((w.drewN m).alloc (.cells #[.int .u8 d] 5)) from conv_one (w.drewN m) d)
  go_enter Tryz.func114, Tryz.ntmps114
  go_upto_block 0 with (first
      | (go_at_call 77; (first | (with_reducible refine (peek_c b fb s p _ _ hat hp0 (by omega) (by omega) (by omega) (by omega)).mono ?_) | (with_reducible refine (peek_c b fb s p _ _ (hat.drewN _) hp0 (by omega) (by omega) (by omega) (by omega)).mono ?_)); rintro e w' ⟨rfl, ⟨n5, rfl⟩⟩))
  go_cut [5] (fun s5 wx => s5 = .bool (decide (markLen s 39 p = 3)) ∧ Drawn0 w wx)
  case first =>
    go_wp2_with fail
    go_loopg [3, 5] 3 (fun kq v3 v5 wr => ∃ i : Nat, v3 = .int .i64 i ∧ v5 = .bool true ∧ Aside0 (1 ≤ i ∧ i ≤ 3 ∧ 3 - i < kq ∧ (2 ≤ i → bt s (p + 1) = 39) ∧ (3 ≤ i → bt s (p + 2) = 39)) ∧ Drawn0 w wr)
    case atStart => exact ⟨1, rfl, rfl, ⟨by omega, by omega, by omega, fun h => by omega, fun h => by omega⟩, by repeat (first | exact Drawn0.refl _ | apply Drawn0.step)⟩
    case round =>
      obtain ⟨i, rfl, rfl, HA, ⟨m1, rfl⟩⟩ := hrel
      have i0 := HA.out.1
      have i1 := HA.out.2.1
      have hw := iwrap ((i : Int) + 1) (by omega) (by omega)
      by_cases hi : (i : Int) < 3
      · have hd : decide ((i : Int) < 3) = true := decide_eq_true hi
        have HI := Aside0.mk (show (i : Int) = 1 ∨ (i : Int) = 2 by omega)
        cases hq : (bt s (p + (i : Int)) == 39) with
        | true =>
          have HQ := Aside0.mk (beq_iff_eq.1 hq)
          go_wp2_with (first
              | (go_at_call 73; (first | (with_reducible refine (peekIs0_c b fb s p _ _ 39 (by omega) hat hp0 (by omega) (by omega) (by omega)).mono ?_) | (with_reducible refine (peekIs0_c b fb s p _ _ 39 (by omega) (hat.drewN _) hp0 (by omega) (by omega) (by omega)).mono ?_)); rintro e w' ⟨rfl, ⟨n3, rfl⟩⟩))
          go_roundg (3 - i)
          case measure => have := HA.out.2.2.1; omega
          case rel =>
            refine ⟨i + 1, rfl, rfl, ⟨by omega, by omega, by omega, fun h => ?_, fun h => ?_⟩, by repeat (first | exact Drawn0.refl _ | apply Drawn0.step)⟩
            · rcases HI.out with h1 | h1
              · have h2 := HQ.out; rw [h1] at h2; exact h2
              · exact HA.out.2.2.2.1 (by omega)
            · rcases HI.out with h1 | h1
              · omega
              · have h2 := HQ.out; rw [h1] at h2; exact h2
        | false =>
          have HQ := Aside0.mk (ne_of_beq_false hq)
          go_wp2_with (first
              | (go_at_call 73; (first | (with_reducible refine (peekIs0_c b fb s p _ _ 39 (by omega) hat hp0 (by omega) (by omega) (by omega)).mono ?_) | (with_reducible refine (peekIs0_c b fb s p _ _ 39 (by omega) (hat.drewN _) hp0 (by omega) (by omega) (by omega)).mono ?_)); rintro e w' ⟨rfl, ⟨n3, rfl⟩⟩))
          go_meet
          refine ⟨?_, by repeat (first | exact Drawn0.refl _ | apply Drawn0.step)⟩
          rw [decide_eq_false]
          unfold markLen
          rw [if_neg]
          · decide
          · intro hh
            simp only [Bool.and_eq_true, beq_iff_eq] at hh
            rcases HI.out with h1 | h1
            · have h2 := HQ.out; rw [h1] at h2; exact h2 hh.1.2
            · have h2 := HQ.out; rw [h1] at h2; exact h2 hh.2
      · have hd : decide ((i : Int) < 3) = false := decide_eq_false hi
        have h1 := HA.out.2.2.2.1 (by omega)
        have h2 := HA.out.2.2.2.2 (by omega)
        have HL : Aside0 (markLen s 39 p = 3) := ⟨by unfold markLen; rw [if_pos]; rw [h1, h2]; rfl⟩
        clear h1 h2
        go_wp2_with fail
        go_meet
        exact ⟨by rw [HL.out]; rfl, by repeat (first | exact Drawn0.refl _ | apply Drawn0.step)⟩
  case rest =>
    obtain ⟨rfl, ⟨m, rfl⟩⟩ := hcut
    rcases markLen_is s 39 p with hL | hL
    · have hd : decide (markLen s 39 p = 3) = false := by rw [hL]; rfl
      have HL := Aside0.mk hL
      clear hL
      go_wp2_with fail
      go_ret
      exact ⟨⟨_, rfl, by rw [HL.out]; exact mark1 s 39 39 rfl (by decide)⟩, (below_drewN (Below.refl _ w) _).alloc (Nat.le_refl _) _⟩
    · have hd : decide (markLen s 39 p = 3) = true := by rw [hL]; rfl
      have HL := Aside0.mk hL
      clear hL
      go_wp2_with fail
      go_ret
      exact ⟨⟨_, rfl, by rw [HL.out]; exact mark3 s 39 39 rfl (by decide)⟩, below_drewN (Below.refl _ w) _⟩

theorem delim_c (w : World) (b fb : Nat) (s : ByteArray) (p : Int) (hat : At w b fb s p) (hp0 : 0 ≤ p) (hp : p < (s.size : Int)) (hs : (s.size : Int) ≤ 5000) (hm : isMark (bt s p) = true) :
    Calls Tryz.prog 114 #[.pointer (some ⟨b, 0, none⟩)] w (Delim s (bt s p) p w) := by
  unfold isMark at hm
  simp only [Bool.or_eq_true, beq_iff_eq] at hm
  rcases hm with hm | hm
  · rw [hm]; exact delim34 w b fb s p hat hp0 hp hs hm
  · rw [hm]; exact delim39 w b fb s p hat hp0 hp hs hm
theorem lit_top (s : ByteArray) (p : Int) (h0 : 0 ≤ p) (hp : p < (s.size : Int)) (hc : bt s p ≠ 0) : p + markLen s (bt s p) p ≤ (s.size : Int) := by
  unfold markLen
  split
  · rename_i h
    simp only [Bool.and_eq_true, beq_iff_eq] at h
    have := bt_in h.2 hc (by omega)
    omega
  · omega
def litR (x : St) (r : Option Int) : Option (Kd × Int × Bool) := match r with
  | none => none
  | some e => some (.other, e, x.dot)
/-- What a quoted content that is no identifier leaves. -/
theorem Quotes.split {b fb : Nat} {x : St} {r : Option Int} {w w' : World} {e : Ending} (h : Quotes b fb x false r w e w') :
    (∃ q t, r = some q ∧ e = .returned (.tuple #[.string t, .bool false]) ∧ Ups b w w' ∧ IsL w' b fb { x with pos := q } ∧ w'.frozen? ⟨b, 5, none⟩ = false ∧ w'.cell? ⟨b, 5, none⟩ = some (.string x.txt)) ∨ (r = none ∧ (∃ g, e = .panicked [{ v := .iface 86 (.pointer (some ⟨g, 0, none⟩)), recovered := false }]) ∧ Ups2 b fb w w') := by
  cases r with
  | none => exact .inr ⟨rfl, h.1, h.2⟩
  | some q =>
    have h2 : if false = true ∧ q = x.pos + 2 then Fails b fb w e w' else (∃ t, e = .returned (.tuple #[.string t, .bool false])) ∧ Ups b w w' ∧ IsL w' b fb { x with pos := q } := h
    rw [if_neg (by rintro ⟨h3, _⟩; cases h3)] at h2
    obtain ⟨⟨t, rfl⟩, hU, hL⟩ := h2
    exact .inl ⟨q, t, rfl, rfl, hU, hL, hL.free 5, hL.c5⟩

set_option maxRecDepth 100000 in
set_option maxHeartbeats 1000000 in
theorem rawBytes_c (w : World) (b fb : Nat) (x : St) (s : ByteArray) (h : Lx0 w b fb s x) (hT : Txt s) (hp0 : 0 ≤ x.pos) (hp : x.pos < (s.size : Int)) (hm : isMark (bt s x.pos) = true) :
    Calls Tryz.prog 84 #[.pointer (some ⟨b, 0, none⟩), .bool false] w (Reads b fb x (litR x (lit s true true x.pos)) w) := by
  have hs : (s.size : Int) ≤ 5000 := by have := hT.size; omega
  have hc0 : bt s x.pos ≠ 0 := by intro hz; rw [hz] at hm; cases hm
  have htop := lit_top s x.pos hp0 hp hc0
  have HM := Aside0.mk hm
  have h1 := h.set1 ⟨#[60, 98, 121, 116, 101, 115, 62]⟩
  have hat1 := h1.at_
  have Z1 := h.l.free 1
  have H1 := h.l.c1
  obtain ⟨R, hR⟩ : ∃ R, lit s true true x.pos = R := ⟨_, rfl⟩
  have HR : Aside0 (quoA s (bt s x.pos) (markLen s (bt s x.pos) x.pos) true (!false) (x.pos + markLen s (bt s x.pos) x.pos) = R) := ⟨by rw [← hR, lit_quoA s true true x.pos hp0]; rfl⟩
  rw [hR]
  clear hR hm
  have hn1 : ((⟨#[114, 97, 119, 32, 98, 121, 116, 101, 115, 32, 108, 105, 116, 101, 114, 97, 108]⟩ : ByteArray).toList == [105, 100, 101, 110, 116, 105, 102, 105, 101, 114]) = false := ne_size (by decide)
  have hn3 : markLen s (bt s x.pos) x.pos = 3 → ((⟨#[116, 114, 105, 112, 108, 101, 45, 113, 117, 111, 116, 101, 100, 32]⟩ ++ ⟨#[114, 97, 119, 32, 98, 121, 116, 101, 115, 32, 108, 105, 116, 101, 114, 97, 108]⟩ : ByteArray).toList == [105, 100, 101, 110, 116, 105, 102, 105, 101, 114]) = false := fun _ => ne_size (by decide)
  go_enter Tryz.func84, Tryz.ntmps84
  go_wp2_with (first
    | (go_at_call 114; (with_reducible refine (delim_c _ b fb s x.pos hat1 hp0 hp hs HM.out).mono ?_); rintro e w1 ⟨⟨q, rfl, hMk⟩, hb1⟩; have hX1 := h1.below hb1; have hU1 := ((Ups.refl b w).set 1 (.string ⟨#[60, 98, 121, 116, 101, 115, 62]⟩)).below hb1; have HMK := Aside0.mk hMk; clear hMk)
    | (go_at_call 83; (with_reducible refine (quoted_true _ b fb _ s q ⟨#[114, 97, 119, 32, 98, 121, 116, 101, 115, 32, 108, 105, 116, 101, 114, 97, 108]⟩ _ _ false false hX1 hT HMK.out hp0 htop (by decide) hn1 hn3 (fun hh => by cases hh)).mono ?_); rintro e w2 hq; rw [HR.out] at hq;
       rcases hq.split with ⟨r, t, hr, rfl, hU2, hL2, hz5, hk5⟩ | ⟨hr, ⟨g, rfl⟩, hU2⟩))
  · subst hr
    go_end0
    exact ⟨rfl, (hU1.trans hU2).set 5 _, ⟨#[60, 98, 121, 116, 101, 115, 62]⟩, _, _, kd_lit _ rfl, hL2.set5 _⟩
  · subst hr
    exact ⟨rfl, ⟨g, rfl⟩, (hU1.two fb).trans hU2⟩

set_option maxRecDepth 100000 in
set_option maxHeartbeats 1000000 in
theorem bytes_c (w : World) (b fb : Nat) (x : St) (s : ByteArray) (h : Lx0 w b fb s x) (hT : Txt s) (hp0 : 0 ≤ x.pos) (hp : x.pos < (s.size : Int)) (hm : isMark (bt s x.pos) = true) :
    Calls Tryz.prog 85 #[.pointer (some ⟨b, 0, none⟩), .bool false] w (Reads b fb x (litR x (lit s false true x.pos)) w) := by
  have hs : (s.size : Int) ≤ 5000 := by have := hT.size; omega
  have hc0 : bt s x.pos ≠ 0 := by intro hz; rw [hz] at hm; cases hm
  have htop := lit_top s x.pos hp0 hp hc0
  have HM := Aside0.mk hm
  have h1 := h.set1 ⟨#[60, 98, 121, 116, 101, 115, 62]⟩
  have hat1 := h1.at_
  have Z1 := h.l.free 1
  have H1 := h.l.c1
  obtain ⟨R, hR⟩ : ∃ R, lit s false true x.pos = R := ⟨_, rfl⟩
  have HR : Aside0 (quoA s (bt s x.pos) (markLen s (bt s x.pos) x.pos) false (!false) (x.pos + markLen s (bt s x.pos) x.pos) = R) := ⟨by rw [← hR, lit_quoA s false true x.pos hp0]; rfl⟩
  rw [hR]
  clear hR hm
  have hn1 : ((⟨#[98, 121, 116, 101, 115, 32, 108, 105, 116, 101, 114, 97, 108]⟩ : ByteArray).toList == [105, 100, 101, 110, 116, 105, 102, 105, 101, 114]) = false := ne_size (by decide)
  have hn3 : markLen s (bt s x.pos) x.pos = 3 → ((⟨#[116, 114, 105, 112, 108, 101, 45, 113, 117, 111, 116, 101, 100, 32]⟩ ++ ⟨#[98, 121, 116, 101, 115, 32, 108, 105, 116, 101, 114, 97, 108]⟩ : ByteArray).toList == [105, 100, 101, 110, 116, 105, 102, 105, 101, 114]) = false := fun _ => ne_size (by decide)
  go_enter Tryz.func85, Tryz.ntmps85
  go_wp2_with (first
    | (go_at_call 114; (with_reducible refine (delim_c _ b fb s x.pos hat1 hp0 hp hs HM.out).mono ?_); rintro e w1 ⟨⟨q, rfl, hMk⟩, hb1⟩; have hX1 := h1.below hb1; have hU1 := ((Ups.refl b w).set 1 (.string ⟨#[60, 98, 121, 116, 101, 115, 62]⟩)).below hb1; have HMK := Aside0.mk hMk; clear hMk)
    | (go_at_call 83; (with_reducible refine (quoted_false _ b fb _ s q ⟨#[98, 121, 116, 101, 115, 32, 108, 105, 116, 101, 114, 97, 108]⟩ _ _ false false hX1 hT HMK.out hp0 htop (by decide) hn1 hn3 (fun hh => by cases hh)).mono ?_); rintro e w2 hq; rw [HR.out] at hq;
       rcases hq.split with ⟨r, t, hr, rfl, hU2, hL2, hz5, hk5⟩ | ⟨hr, ⟨g, rfl⟩, hU2⟩))
  · subst hr
    go_end0
    exact ⟨rfl, (hU1.trans hU2).set 5 _, ⟨#[60, 98, 121, 116, 101, 115, 62]⟩, _, _, kd_lit _ rfl, hL2.set5 _⟩
  · subst hr
    exact ⟨rfl, ⟨g, rfl⟩, (hU1.two fb).trans hU2⟩

set_option maxRecDepth 100000 in
set_option maxHeartbeats 1000000 in
theorem rawString_c (w : World) (b fb : Nat) (x : St) (s : ByteArray) (h : Lx0 w b fb s x) (hT : Txt s) (hp0 : 0 ≤ x.pos) (hp : x.pos < (s.size : Int)) (hm : isMark (bt s x.pos) = true) :
    Calls Tryz.prog 86 #[.pointer (some ⟨b, 0, none⟩), .bool false] w (Reads b fb x (litR x (lit s true false x.pos)) w) := by
  have hs : (s.size : Int) ≤ 5000 := by have := hT.size; omega
  have hc0 : bt s x.pos ≠ 0 := by intro hz; rw [hz] at hm; cases hm
  have htop := lit_top s x.pos hp0 hp hc0
  have HM := Aside0.mk hm
  have h1 := h.set1 ⟨#[60, 115, 116, 114, 105, 110, 103, 62]⟩
  have hat1 := h1.at_
  have Z1 := h.l.free 1
  have H1 := h.l.c1
  obtain ⟨R, hR⟩ : ∃ R, lit s true false x.pos = R := ⟨_, rfl⟩
  have HR : Aside0 (quoA s (bt s x.pos) (markLen s (bt s x.pos) x.pos) true (!true) (x.pos + markLen s (bt s x.pos) x.pos) = R) := ⟨by rw [← hR, lit_quoA s true false x.pos hp0]; rfl⟩
  rw [hR]
  clear hR hm
  have hn1 : ((⟨#[114, 97, 119, 32, 115, 116, 114, 105, 110, 103, 32, 108, 105, 116, 101, 114, 97, 108]⟩ : ByteArray).toList == [105, 100, 101, 110, 116, 105, 102, 105, 101, 114]) = false := ne_size (by decide)
  have hn3 : markLen s (bt s x.pos) x.pos = 3 → ((⟨#[116, 114, 105, 112, 108, 101, 45, 113, 117, 111, 116, 101, 100, 32]⟩ ++ ⟨#[114, 97, 119, 32, 115, 116, 114, 105, 110, 103, 32, 108, 105, 116, 101, 114, 97, 108]⟩ : ByteArray).toList == [105, 100, 101, 110, 116, 105, 102, 105, 101, 114]) = false := fun _ => ne_size (by decide)
  go_enter Tryz.func86, Tryz.ntmps86
  go_wp2_with (first
    | (go_at_call 114; (with_reducible refine (delim_c _ b fb s x.pos hat1 hp0 hp hs HM.out).mono ?_); rintro e w1 ⟨⟨q, rfl, hMk⟩, hb1⟩; have hX1 := h1.below hb1; have hU1 := ((Ups.refl b w).set 1 (.string ⟨#[60, 115, 116, 114, 105, 110, 103, 62]⟩)).below hb1; have HMK := Aside0.mk hMk; clear hMk)
    | (go_at_call 83; (with_reducible refine (quoted_true _ b fb _ s q ⟨#[114, 97, 119, 32, 115, 116, 114, 105, 110, 103, 32, 108, 105, 116, 101, 114, 97, 108]⟩ _ _ true false hX1 hT HMK.out hp0 htop (by decide) hn1 hn3 (fun hh => by cases hh)).mono ?_); rintro e w2 hq; rw [HR.out] at hq;
       rcases hq.split with ⟨r, t, hr, rfl, hU2, hL2, hz5, hk5⟩ | ⟨hr, ⟨g, rfl⟩, hU2⟩))
  · subst hr
    go_end0
    exact ⟨rfl, (hU1.trans hU2).set 5 _, ⟨#[60, 115, 116, 114, 105, 110, 103, 62]⟩, _, _, kd_lit _ rfl, hL2.set5 _⟩
  · subst hr
    exact ⟨rfl, ⟨g, rfl⟩, (hU1.two fb).trans hU2⟩

set_option maxRecDepth 100000 in
set_option maxHeartbeats 1000000 in
theorem string_c (w : World) (b fb : Nat) (x : St) (s : ByteArray) (h : Lx0 w b fb s x) (hT : Txt s) (hp0 : 0 ≤ x.pos) (hp : x.pos < (s.size : Int)) (hm : isMark (bt s x.pos) = true) :
    Calls Tryz.prog 87 #[.pointer (some ⟨b, 0, none⟩), .bool false] w (Reads b fb x (litR x (lit s false false x.pos)) w) := by
  have hs : (s.size : Int) ≤ 5000 := by have := hT.size; omega
  have hc0 : bt s x.pos ≠ 0 := by intro hz; rw [hz] at hm; cases hm
  have htop := lit_top s x.pos hp0 hp hc0
  have HM := Aside0.mk hm
  have h1 := h.set1 ⟨#[60, 115, 116, 114, 105, 110, 103, 62]⟩
  have hat1 := h1.at_
  have Z1 := h.l.free 1
  have H1 := h.l.c1
  obtain ⟨R, hR⟩ : ∃ R, lit s false false x.pos = R := ⟨_, rfl⟩
  have HR : Aside0 (quoA s (bt s x.pos) (markLen s (bt s x.pos) x.pos) false (!true) (x.pos + markLen s (bt s x.pos) x.pos) = R) := ⟨by rw [← hR, lit_quoA s false false x.pos hp0]; rfl⟩
  rw [hR]
  clear hR hm
  have hn1 : ((⟨#[115, 116, 114, 105, 110, 103, 32, 108, 105, 116, 101, 114, 97, 108]⟩ : ByteArray).toList == [105, 100, 101, 110, 116, 105, 102, 105, 101, 114]) = false := ne_size (by decide)
  have hn3 : markLen s (bt s x.pos) x.pos = 3 → ((⟨#[116, 114, 105, 112, 108, 101, 45, 113, 117, 111, 116, 101, 100, 32]⟩ ++ ⟨#[115, 116, 114, 105, 110, 103, 32, 108, 105, 116, 101, 114, 97, 108]⟩ : ByteArray).toList == [105, 100, 101, 110, 116, 105, 102, 105, 101, 114]) = false := fun _ => ne_size (by decide)
  go_enter Tryz.func87, Tryz.ntmps87
  go_wp2_with (first
    | (go_at_call 114; (with_reducible refine (delim_c _ b fb s x.pos hat1 hp0 hp hs HM.out).mono ?_); rintro e w1 ⟨⟨q, rfl, hMk⟩, hb1⟩; have hX1 := h1.below hb1; have hU1 := ((Ups.refl b w).set 1 (.string ⟨#[60, 115, 116, 114, 105, 110, 103, 62]⟩)).below hb1; have HMK := Aside0.mk hMk; clear hMk)
    | (go_at_call 83; (with_reducible refine (quoted_false _ b fb _ s q ⟨#[115, 116, 114, 105, 110, 103, 32, 108, 105, 116, 101, 114, 97, 108]⟩ _ _ true false hX1 hT HMK.out hp0 htop (by decide) hn1 hn3 (fun hh => by cases hh)).mono ?_); rintro e w2 hq; rw [HR.out] at hq;
       rcases hq.split with ⟨r, t, hr, rfl, hU2, hL2, hz5, hk5⟩ | ⟨hr, ⟨g, rfl⟩, hU2⟩))
  · subst hr
    go_end0
    exact ⟨rfl, (hU1.trans hU2).set 5 _, ⟨#[60, 115, 116, 114, 105, 110, 103, 62]⟩, _, _, kd_lit _ rfl, hL2.set5 _⟩
  · subst hr
    exact ⟨rfl, ⟨g, rfl⟩, (hU1.two fb).trans hU2⟩
end Go.Proofs.YtjepdlmcombmcaaGreatDoor.Lx
