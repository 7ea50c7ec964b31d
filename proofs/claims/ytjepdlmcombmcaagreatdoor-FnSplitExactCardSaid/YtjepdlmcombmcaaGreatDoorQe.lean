/- The token behind a path's dot: what consumeFieldToken leaves. Conditions: the lexer's state; what consumeToken leaves. -/
import Derived.Test.YtjepdlmcombmcaaGreatDoorNy
namespace Go.Proofs.YtjepdlmcombmcaaGreatDoor.Lx
open Go.RowKit Go.Proofs.YtjepdlmcombmcaaGreatDoorW.PrintWords

set_option maxRecDepth 100000 in
set_option maxHeartbeats 1000000 in
theorem field_c (w : World) (b fb : Nat) (x : St) (s : ByteArray) (h : Lx0 w b fb s x) (hs : (s.size : Int) ≤ 5000) (hp0 : 0 ≤ x.pos) (hp1 : x.pos ≤ (s.size : Int))
    (hTok : ∀ W, Lx0 W b fb s x → Calls Tryz.prog 54 #[.pointer (some ⟨b, 0, none⟩), .bool false] W (Reads b fb x (tokR x (tok s false x.pos)) W)) :
    Calls Tryz.prog 53 #[.pointer (some ⟨b, 0, none⟩), .bool false] w (Reads b fb x (tokR x (tokF s x.pos)) w) := by
  have hat := h.at_
  have Z1 := h.l.free 1
  have H1 := h.l.c1
  have HT := Aside0.mk hTok
  clear hTok
  cases hpt : isPart (bt s x.pos) with
  | true =>
    have hp := bt_in (s := s) rfl (isPart_ne hpt) hp0
    have hd0 : decide (x.pos < (s.size : Int)) = true := decide_eq_true hp
    obtain ⟨R, hR⟩ : ∃ R, run isPart s x.pos = R := ⟨_, rfl⟩
    have HR := Aside0.mk hR
    have hres : tokR x (tokF s x.pos) = some (.field, R, x.dot) := by unfold tokF; rw [hpt, hR]; rfl
    rw [hres]
    clear hres hR
    go_enter Tryz.func53, Tryz.ntmps53
    go_wp2_with (first
        | (go_at_call 75; (first | (with_reducible refine (peekOk_c b fb s x.pos _ _ hat hp0 (by omega) (by omega) (by omega)).mono ?_) | (with_reducible refine (peekOk_c b fb s x.pos _ _ (hat.drewN _) hp0 (by omega) (by omega) (by omega)).mono ?_)); rintro e w' ⟨rfl, ⟨n4, rfl⟩⟩)
        | (go_at_call 77; (first | (with_reducible refine (peek_c b fb s x.pos _ _ hat hp0 (by omega) (by omega) (by omega) (by omega)).mono ?_) | (with_reducible refine (peek_c b fb s x.pos _ _ (hat.drewN _) hp0 (by omega) (by omega) (by omega) (by omega)).mono ?_)); rintro e w' ⟨rfl, ⟨n2, rfl⟩⟩)
        | (go_at_call 76; (with_reducible refine (charIsIdentPart_c _ _).mono ?_); rintro e w' ⟨rfl, hw'⟩; obtain rfl := hw'.symm))
    go_loopg [4] (((s.size : Int) - x.pos).toNat + 1) (fun kq v4 wr => ∃ i : Int, v4 = .int .i64 i ∧ Aside0 (0 ≤ i ∧ x.pos + i ≤ (s.size : Int) ∧ run isPart s (x.pos + i) = R ∧ ((s.size : Int) - (x.pos + i)).toNat < kq) ∧ Drawn0 w wr)
    case atStart => exact ⟨0, rfl, ⟨Int.le_refl _, by omega, by rw [Int.add_zero]; exact HR.out, by omega⟩, by repeat (first | exact Drawn0.refl _ | apply Drawn0.step)⟩
    case round =>
      obtain ⟨i, rfl, HA, ⟨m1, rfl⟩⟩ := hrel
      have hi0 := HA.out.1
      have hi1 := HA.out.2.1
      have hwi := iwrap (i + 1) (by omega) (by omega)
      by_cases hlt : x.pos + i < (s.size : Int)
      · have hd1 : decide (x.pos + i < (s.size : Int)) = true := decide_eq_true hlt
        cases hq : isPart (bt s (x.pos + i)) with
        | true =>
          have HQ := Aside0.mk hq
          go_wp2_with (first
              | (go_at_call 75; (first | (with_reducible refine (peekOk_c b fb s x.pos _ _ hat hp0 (by omega) (by omega) (by omega)).mono ?_) | (with_reducible refine (peekOk_c b fb s x.pos _ _ (hat.drewN _) hp0 (by omega) (by omega) (by omega)).mono ?_)); rintro e w' ⟨rfl, ⟨n4, rfl⟩⟩)
              | (go_at_call 77; (first | (with_reducible refine (peek_c b fb s x.pos _ _ hat hp0 (by omega) (by omega) (by omega) (by omega)).mono ?_) | (with_reducible refine (peek_c b fb s x.pos _ _ (hat.drewN _) hp0 (by omega) (by omega) (by omega) (by omega)).mono ?_)); rintro e w' ⟨rfl, ⟨n2, rfl⟩⟩)
              | (go_at_call 76; (with_reducible refine (charIsIdentPart_c _ _).mono ?_); rintro e w' ⟨rfl, hw'⟩; obtain rfl := hw'.symm))
          go_roundg (((s.size : Int) - (x.pos + (i + 1))).toNat + 1)
          case measure => have := HA.out.2.2.2; omega
          case rel => exact ⟨i + 1, rfl, ⟨by omega, by omega, by rw [← HA.out.2.2.1, ← Int.add_assoc]; exact (run_step hlt HQ.out).symm, by omega⟩, by repeat (first | exact Drawn0.refl _ | apply Drawn0.step)⟩
        | false =>
          have HQ := Aside0.mk (show R = x.pos + i by rw [← HA.out.2.2.1]; exact run_stop hq)
          have hwp := iwrap (x.pos + i) (by omega) (by omega)
          go_wp2_with (first
              | (go_at_call 75; (first | (with_reducible refine (peekOk_c b fb s x.pos _ _ hat hp0 (by omega) (by omega) (by omega)).mono ?_) | (with_reducible refine (peekOk_c b fb s x.pos _ _ (hat.drewN _) hp0 (by omega) (by omega) (by omega)).mono ?_)); rintro e w' ⟨rfl, ⟨n4, rfl⟩⟩)
              | (go_at_call 77; (first | (with_reducible refine (peek_c b fb s x.pos _ _ hat hp0 (by omega) (by omega) (by omega) (by omega)).mono ?_) | (with_reducible refine (peek_c b fb s x.pos _ _ (hat.drewN _) hp0 (by omega) (by omega) (by omega) (by omega)).mono ?_)); rintro e w' ⟨rfl, ⟨n2, rfl⟩⟩)
              | (go_at_call 76; (with_reducible refine (charIsIdentPart_c _ _).mono ?_); rintro e w' ⟨rfl, hw'⟩; obtain rfl := hw'.symm))
          refine wp_any ?_
          intro wz hwz
          have hXz : Lx0 wz b fb s { x with kind := ⟨#[60, 105, 100, 101, 110, 116, 62]⟩ } := by rw [hwz]; exact (h.drewN _).set1 _
          have hUz : Ups b w wz := by rw [hwz]; exact ((Ups.refl b w).drewN _).set 1 _
          clear hwz
          have B0 := hXz.l.c0
          have B9 : wz.cell? ⟨b, 9, none⟩ = some (.int .i64 x.pos) := hXz.l.c9
          have s2 : x.pos ≤ x.pos + i := by omega
          have s3 : 0 ≤ x.pos + i := by omega
          have BB := hXz.isF.buf
          have B5 : wz.cell? ⟨b, 5, none⟩ = some (.string x.txt) := hXz.l.c5
          have Z5 := hXz.l.free 5
          have hAz := (hXz.set5 (s.extract x.pos.toNat (x.pos + i).toNat)).drew
          have hatZ : At (wz.setCell ⟨b, 5, none⟩ (.string (s.extract x.pos.toNat (x.pos + i).toNat))).drew b fb s x.pos := hAz.at_
          have hfrZ := hAz.l.free 9
          go_still_tail 22, (by kernel_rfl)
          go_wp2_with (first
              | (go_at_call 72; (with_reducible refine (skipN_c b fb s x.pos i _ hatZ hfrZ hp0 (by omega) hi0 (by omega)).mono ?_); rintro e w9 ⟨rfl, hw9⟩))
          (try simp only [Exit.inBlock, Exit.then]); refine bodyPost_ret (results_none rfl _ _ _) rfl ?_
          rw [HQ.out]
          subst hw9
          exact ⟨rfl, (((hUz.set 5 _).drew).set 9 _), ⟨#[60, 105, 100, 101, 110, 116, 62]⟩, _, _, kd_lit _ rfl, (hAz.set9 _).l⟩
      · have hd1 : decide (x.pos + i < (s.size : Int)) = false := decide_eq_false hlt
        have HQ := Aside0.mk (show R = x.pos + i by rw [← HA.out.2.2.1]; exact run_end (by omega))
        have hwp := iwrap (x.pos + i) (by omega) (by omega)
        go_wp2_with (first
            | (go_at_call 75; (first | (with_reducible refine (peekOk_c b fb s x.pos _ _ hat hp0 (by omega) (by omega) (by omega)).mono ?_) | (with_reducible refine (peekOk_c b fb s x.pos _ _ (hat.drewN _) hp0 (by omega) (by omega) (by omega)).mono ?_)); rintro e w' ⟨rfl, ⟨n4, rfl⟩⟩))
        refine wp_any ?_
        intro wz hwz
        have hXz : Lx0 wz b fb s { x with kind := ⟨#[60, 105, 100, 101, 110, 116, 62]⟩ } := by rw [hwz]; exact (h.drewN _).set1 _
        have hUz : Ups b w wz := by rw [hwz]; exact ((Ups.refl b w).drewN _).set 1 _
        clear hwz
        have B0 := hXz.l.c0
        have B9 : wz.cell? ⟨b, 9, none⟩ = some (.int .i64 x.pos) := hXz.l.c9
        have s2 : x.pos ≤ x.pos + i := by omega
        have s3 : 0 ≤ x.pos + i := by omega
        have BB := hXz.isF.buf
        have B5 : wz.cell? ⟨b, 5, none⟩ = some (.string x.txt) := hXz.l.c5
        have Z5 := hXz.l.free 5
        have hAz := (hXz.set5 (s.extract x.pos.toNat (x.pos + i).toNat)).drew
        have hatZ : At (wz.setCell ⟨b, 5, none⟩ (.string (s.extract x.pos.toNat (x.pos + i).toNat))).drew b fb s x.pos := hAz.at_
        have hfrZ := hAz.l.free 9
        go_still_tail 22, (by kernel_rfl)
        go_wp2_with (first
            | (go_at_call 72; (with_reducible refine (skipN_c b fb s x.pos i _ hatZ hfrZ hp0 (by omega) hi0 (by omega)).mono ?_); rintro e w9 ⟨rfl, hw9⟩))
        (try simp only [Exit.inBlock, Exit.then]); refine bodyPost_ret (results_none rfl _ _ _) rfl ?_
        rw [HQ.out]
        subst hw9
        exact ⟨rfl, (((hUz.set 5 _).drew).set 9 _), ⟨#[60, 105, 100, 101, 110, 116, 62]⟩, _, _, kd_lit _ rfl, (hAz.set9 _).l⟩
  | false =>
    obtain ⟨R, hR⟩ : ∃ R, tokR x (tok s false x.pos) = R := ⟨_, rfl⟩
    have HR := Aside0.mk hR
    have hres : tokR x (tokF s x.pos) = R := by unfold tokF; rw [hpt]; exact hR
    rw [hres]
    clear hres hR
    by_cases hp : x.pos < (s.size : Int)
    · have hd0 : decide (x.pos < (s.size : Int)) = true := decide_eq_true hp
      go_enter Tryz.func53, Tryz.ntmps53
      go_wp2_with (first
          | (go_at_call 75; (first | (with_reducible refine (peekOk_c b fb s x.pos _ _ hat hp0 (by omega) (by omega) (by omega)).mono ?_) | (with_reducible refine (peekOk_c b fb s x.pos _ _ (hat.drewN _) hp0 (by omega) (by omega) (by omega)).mono ?_)); rintro e w' ⟨rfl, ⟨n4, rfl⟩⟩)
          | (go_at_call 77; (first | (with_reducible refine (peek_c b fb s x.pos _ _ hat hp0 (by omega) (by omega) (by omega) (by omega)).mono ?_) | (with_reducible refine (peek_c b fb s x.pos _ _ (hat.drewN _) hp0 (by omega) (by omega) (by omega) (by omega)).mono ?_)); rintro e w' ⟨rfl, ⟨n2, rfl⟩⟩)
          | (go_at_call 76; (with_reducible refine (charIsIdentPart_c _ _).mono ?_); rintro e w' ⟨rfl, hw'⟩; obtain rfl := hw'.symm)
          | (go_at_call 54; (with_reducible refine (HT.out _ (h.drewN _)).mono ?_); rintro e w2 hrd; rw [HR.out] at hrd; have hrd' := Reads.mono ((Ups.refl b w).drewN _) hrd; rcases hrd'.split with rfl | ⟨g, rfl⟩))
      · go_end0
        exact hrd'
      · exact ⟨rfl, hrd'⟩
    · have hd0 : decide (x.pos < (s.size : Int)) = false := decide_eq_false hp
      go_enter Tryz.func53, Tryz.ntmps53
      go_wp2_with (first
          | (go_at_call 75; (first | (with_reducible refine (peekOk_c b fb s x.pos _ _ hat hp0 (by omega) (by omega) (by omega)).mono ?_) | (with_reducible refine (peekOk_c b fb s x.pos _ _ (hat.drewN _) hp0 (by omega) (by omega) (by omega)).mono ?_)); rintro e w' ⟨rfl, ⟨n4, rfl⟩⟩)
          | (go_at_call 77; (first | (with_reducible refine (peek_c b fb s x.pos _ _ hat hp0 (by omega) (by omega) (by omega) (by omega)).mono ?_) | (with_reducible refine (peek_c b fb s x.pos _ _ (hat.drewN _) hp0 (by omega) (by omega) (by omega) (by omega)).mono ?_)); rintro e w' ⟨rfl, ⟨n2, rfl⟩⟩)
          | (go_at_call 76; (with_reducible refine (charIsIdentPart_c _ _).mono ?_); rintro e w' ⟨rfl, hw'⟩; obtain rfl := hw'.symm)
          | (go_at_call 54; (with_reducible refine (HT.out _ (h.drewN _)).mono ?_); rintro e w2 hrd; rw [HR.out] at hrd; have hrd' := Reads.mono ((Ups.refl b w).drewN _) hrd; rcases hrd'.split with rfl | ⟨g, rfl⟩))
      · go_end0
        exact hrd'
      · exact ⟨rfl, hrd'⟩
end Go.Proofs.YtjepdlmcombmcaaGreatDoor.Lx
