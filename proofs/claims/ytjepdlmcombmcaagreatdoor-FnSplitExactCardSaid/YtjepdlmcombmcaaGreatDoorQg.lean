/- The next token: the walk through nextToken. Conditions: the lexer's state; what the readers of tokens leave. -/
import Derived.Test.YtjepdlmcombmcaaGreatDoorQf
import Derived.Deep.RegionHeld3
import Derived.Deep.AppendLies
namespace Go.Proofs.YtjepdlmcombmcaaGreatDoor.Lx
open Go.RowKit Go.Proofs.YtjepdlmcombmcaaGreatDoorW.PrintWords

theorem ComAt.shape {w : World} {base : Nat} {v : Value} {n : Nat} {c : Option Int} (h : ComAt w base v n c) : ∃ A C, v = .slice A n C := by
  obtain ⟨xs, ⟨hl, ⟨h1, h0⟩ | ⟨g, cap, cur, hv, _⟩⟩, _⟩ := h
  · exact ⟨none, 0, by rw [h1, h0]⟩
  · exact ⟨_, _, hv⟩
theorem ComAt.base {w : World} {base : Nat} {v : Value} {n : Nat} {c : Option Int} (h : ComAt w base v n c) : ∀ k, v.ownBlock = some k → base ≤ k := by
  obtain ⟨xs, HR, _⟩ := h
  exact fun k hk => own_base HR k hk
/-- append onto the comments that are held, as a step of a region that draws. -/
theorem step_append_com {ops : Array Oper} {o : Oper} {a : Act} {K : Act → World → Prop} {Q : Exit → Act → World → Prop} {E : Prop} {W : World} (base : Nat) (hgd : o.guard = none) (s x : Operand)
    (ho : o.op = .call { callee := .builtin .append, args := #[s, x], argTypes := #[62, 62] })
    (v : Value) (n : Nat) (c : Option Int) (sp raw : ByteArray) (p e : Int) (hs : a.eval s = v) (hx : a.eval x = .slice (some ⟨W.heap.size, 0, none⟩) 1 1)
    (HO : ComAt W base v n c) (hbase : base ≤ W.heap.size) (hb : n ≤ 100000)
    (h : ∀ g cap w1, ComAt w1 base (.slice (some ⟨g, 0, none⟩) (n + 1) cap) (n + 1) (some (c.getD p)) → W.grownBy w1 v.ownBlock → K (a.put o.dst (.slice (some ⟨g, 0, none⟩) (n + 1) cap)) w1) :
    if Region.wanted o (yielded ops a.tmps) = true then Oper.wp Tryz.prog o a (W.alloc (.cells #[.string sp, .string raw, .int .i64 p, .int .i64 e] 97)).drew K Q else E := by
  obtain ⟨i0, hi, hzz⟩ := Option.map_eq_some_iff.1 info97
  simp only [Prod.mk.injEq] at hzz
  obtain ⟨hz0, hz1, hz2⟩ := hzz
  obtain ⟨xs, HR, hc⟩ := HO
  refine step_append_lies (W.alloc (.cells #[.string sp, .string raw, .int .i64 p, .int .i64 e] 97)).drew hgd s x 62 ho base 97 i0 _ 4 48 Tryz.underlying62 hi hz0 hz1 hz2 rfl (by omega) v n xs hs (HR.alloc _) ⟨W.heap.size, 0, none⟩ 1 1 [.string sp, .string raw, .int .i64 p, .int .i64 e] hx rfl
    (World.news_of_block (cs := #[.string sp, .string raw, .int .i64 p, .int .i64 e]) (t := 97) (fr := (0, 0)) (heap_alloc_new W _)) ?_ (by omega) (by simp only [maxLen]; omega) (by omega) (by show base ≤ (W.alloc _).heap.size; simp [go_sem]; omega) _ rfl ?_
  · intro u hu
    simp only [List.mem_cons, List.not_mem_nil, or_false] at hu
    rcases hu with rfl | rfl | rfl | rfl <;> rfl
  · intro g cap w1 hown hg _ _
    refine h g cap w1 ⟨_, hown, .inr ⟨by omega, ?_⟩⟩ (World.grownBy.trans (World.grownBy_alloc W _ _) ⟨hg.os, hg.tape, hg.output, hg.size, hg.block⟩)
    have hlen : xs.length = n * 4 := HR.1
    rcases hc with ⟨h0, rfl⟩ | ⟨h0, c0, rfl, hx2⟩
    · refine ⟨p, rfl, ?_⟩
      have hnil : xs = [] := List.eq_nil_of_length_eq_zero (by omega)
      rw [hnil]
      rfl
    · refine ⟨c0, rfl, ?_⟩
      rw [List.getElem?_append_left (by omega)]
      exact hx2
def stepG (s : ByteArray) (last : Kd) (dot : Bool) (p : Int) (G : Option Int) : Option Tk := match G with
  | none => none
  | some a => stepAt s last dot p a
theorem step_G (s : ByteArray) (last : Kd) (dot : Bool) (p : Int) : step s last dot p = stepG s last dot p (gap s ((s.size : Int) - p + 1).toNat p) := rfl
/-- What consumeToken leaves at any place where no blank and no comment begins. -/
def TokOk (b fb : Nat) (s : ByteArray) : Prop := ∀ W y, Lx0 W b fb s y → 0 ≤ y.pos → y.pos ≤ (s.size : Int) → bt s y.pos ≠ 35 → isSp (bt s y.pos) = false →
  Calls Tryz.prog 54 #[.pointer (some ⟨b, 0, none⟩), .bool false] W (Reads b fb y (tokR y (tok s (isFd (kd y.last.toList)) y.pos)) W)
/-- The state in which the token's own bytes are read. -/
def St.readyAt (x : St) (v : Value) (r : Int) (sp : ByteArray) : St := { x.clear with com := v, pos := r, space := sp, tp := r }
theorem readyAt_lx {w : World} {b fb : Nat} {s : ByteArray} {x : St} {v : Value} {r : Int} (h : Lx0 w b fb s { x.clear with com := v, pos := r }) (sp : ByteArray) :
    Lx0 ((w.setCell ⟨b, 3, none⟩ (.string sp)).setCell ⟨b, 7, none⟩ (.int .i64 r)) b fb s (x.readyAt v r sp) :=
  h.step (((Ups.refl b w).set 3 _).set 7 _) ((h.l.set3 sp).set7 r)
theorem dot_of (l k : Kd) : (if k = .dot then isFd l else false) = dotOf l k := by
  unfold dotOf
  by_cases hk : k = .dot
  · rw [if_pos hk, decide_eq_true hk, Bool.true_and]
  · rw [if_neg hk, decide_eq_false hk, Bool.false_and]
theorem dotOf_dot (k : Kd) : dotOf .dot k = false := by
  unfold dotOf
  rw [show isFd .dot = false from rfl, Bool.and_false]
set_option maxRecDepth 100000 in
set_option maxHeartbeats 4000000 in
theorem next_c (w : World) (b fb : Nat) (x : St) (s : ByteArray) (h : Lx0 w b fb s x) (hT : Txt s) (hp0 : 0 ≤ x.pos) (hp1 : x.pos ≤ (s.size : Int)) (hdot : x.dot = true → kd x.kind.toList = .dot) (hTok : TokOk b fb s) :
    Calls Tryz.prog 34 #[.pointer (some ⟨b, 0, none⟩), .bool false] w (Nexts b fb (kd x.kind.toList) (step s (kd x.kind.toList) x.dot x.pos) w) := by
  have hs : (s.size : Int) ≤ 5000 := by have := hT.size; omega
  have hs6 : (s.size : Int) ≤ 1000000 := by omega
  have hA := hT.ascii
  have hL := h.l
  have hne := h.ne
  have hblt := hL.lt
  have H1 := hL.c1
  have H2 := hL.c2
  have H3 := hL.c3
  have H4 := hL.c4
  have H5 := hL.c5
  have H6 := hL.c6
  have H7 := hL.c7
  have H8 := hL.c8
  have H10 := hL.c10
  have Z := fun i => hL.free i
  have HT : Aside0 (∀ W y, Lx0 W b fb s y → 0 ≤ y.pos → y.pos ≤ (s.size : Int) → bt s y.pos ≠ 35 → isSp (bt s y.pos) = false →
    Calls Tryz.prog 54 #[.pointer (some ⟨b, 0, none⟩), .bool false] W (Reads b fb y (tokR y (tok s (isFd (kd y.last.toList)) y.pos)) W)) := ⟨hTok⟩
  have HD := Aside0.mk hdot
  clear hTok hdot
  obtain ⟨G, hG⟩ : ∃ G, gap s ((s.size : Int) - x.pos + 1).toNat x.pos = G := ⟨_, rfl⟩
  obtain ⟨RR, hRR⟩ : ∃ RR, step s (kd x.kind.toList) x.dot x.pos = RR := ⟨_, rfl⟩
  have HRR : Aside0 (stepG s (kd x.kind.toList) x.dot x.pos G = RR) := ⟨by rw [← hRR, ← hG]; rfl⟩
  rw [hRR]
  have HG := Aside0.mk hG
  clear hRR hG
  go_enter Tryz.func34, Tryz.ntmps34
  go_wp2
  go_loopg [] (((s.size : Int) - x.pos).toNat + 1) (fun kq wr => ∃ (q : Int) (v : Value) (n : Nat) (c : Option Int), Aside0 (x.pos ≤ q ∧ q ≤ (s.size : Int) ∧ ((s.size : Int) - q).toNat < kq ∧ gap s ((s.size : Int) - q + 1).toNat q = G ∧ (n : Int) ≤ q ∧ ((c = none ∧ q = x.pos) ∨ (c = some (run isSp s x.pos) ∧ comm s (run isSp s x.pos) ≠ some (run isSp s x.pos)))) ∧ Aside0 (Ups b w wr ∧ ComAt wr w.heap.size v n c) ∧ IsL wr b fb { x.clear with com := v, pos := q })
  case atStart => exact ⟨x.pos, .slice none 0 0, 0, none, ⟨Int.le_refl _, hp1, by omega, HG.out, by omega, .inl ⟨rfl, rfl⟩⟩, ⟨(clear_of hL).1, ComAt.nil _ _⟩, (clear_of hL).2⟩
  case round =>
    obtain ⟨q, v, n, c, HA, HU, hLr⟩ := hrel
    clear H1 H2 H3 H4 H5 H6 H7 H8 H10 Z
    have hU := HU.out.1
    have hXr := h.step hU hLr
    have hFr := hXr.isF
    have q0 := HA.out.1
    have q1 := HA.out.2.1
    have p0 : 0 ≤ ({ x.clear with com := v, pos := q } : St).pos := by show 0 ≤ q; omega
    have p1 : ({ x.clear with com := v, pos := q } : St).pos ≤ (s.size : Int) := q1
    have R9 : wr.cell? ⟨b, 9, none⟩ = some (.int .i64 q) := hLr.c9
    obtain ⟨r, hr⟩ : ∃ r, run isSp s q = r := ⟨_, rfl⟩
    have HRq := Aside0.mk hr
    have qr : q ≤ r := by rw [← hr]; exact run_ge _ _ _
    have rs : r ≤ (s.size : Int) := by rw [← hr]; exact run_le q1
    have qn : 0 ≤ q := by omega
    have rn : 0 ≤ r := by omega
    have r0 : 0 ≤ ({ x.clear with com := v, pos := r } : St).pos := rn
    have r1 : ({ x.clear with com := v, pos := r } : St).pos ≤ (s.size : Int) := rs
    obtain ⟨k, hk⟩ : ∃ k, ((s.size : Int) - q + 1).toNat = k + 1 := ⟨((s.size : Int) - q).toNat, by omega⟩
    have HG2 := Aside0.mk HA.out.2.2.2.1
    rw [hk] at HG2
    have HK := Aside0.mk hk
    clear hr hk
    cases hcm : comm s r with
    | none =>
      have HC := Aside0.mk hcm
      have hGn : Aside0 (RR = none) := ⟨by rw [← HRR.out, ← HG2.out, gap_none (by rw [HRq.out]; exact hcm)]; rfl⟩
      obtain rfl := hGn.out
      clear hcm
      go_wp2_with (first
          | (go_at_call 51; (with_reducible refine (skipSpaces_c _ b fb _ s hLr hFr hA p0 p1 hs6).mono ?_); rintro e w1 ⟨rfl, hU1, hL1'⟩; have hL1 : IsL w1 b fb { x.clear with com := v, pos := r } := (by have h5 := hL1'; rw [show run isSp s ({ x.clear with com := v, pos := q } : St).pos = r from HRq.out] at h5; exact h5); have hX1 := hXr.step hU1 hL1; have A0 := hL1.c0; have A9 : w1.cell? ⟨b, 9, none⟩ = some (.int .i64 r) := hL1.c9; have A1 := hX1.isF.buf; clear hL1'))
      go_quiet (fail)
      go_wp2_with (first
          | (go_at_call 52; (with_reducible refine (skipComment_c _ b fb _ s (hX1.drewN _) hT r0 r1).mono ?_); rintro e w2 hsk; rw [show comm s ({ x.clear with com := v, pos := r } : St).pos = _ from HC.out] at hsk; obtain ⟨⟨g, rfl⟩, hU2⟩ := hsk))
      exact ⟨rfl, ⟨g, rfl⟩, (((hU.trans hU1).drewN _).two fb).trans hU2⟩
    | some e =>
      have hce := comm_in s r e rn rs hcm
      by_cases her : e = r
      · rw [her] at hcm
        have HC := Aside0.mk hcm
        clear hce her hcm
        have hGs : Aside0 (G = some r) := ⟨by rw [← HG2.out, gap_here (by rw [HRq.out]; exact HC.out), HRq.out]⟩
        have hcc : Aside0 (c = firstC s x.pos) := ⟨by
          unfold firstC
          rcases HA.out.2.2.2.2.2 with ⟨h5, h6⟩ | ⟨h5, h6⟩
          · rw [← h6, HRq.out, HC.out, if_pos rfl, h5]
          · rw [if_neg h6, h5]⟩
        have HR2 : Aside0 (stepAt s (kd x.kind.toList) x.dot x.pos r = RR) := ⟨by rw [← HRR.out, hGs.out]; rfl⟩
        have HN35 : Aside0 (bt s (x.readyAt v r (s.extract q.toNat r.toNat)).pos ≠ 35) := ⟨comm_self rn HC.out⟩
        have HNSP : Aside0 (isSp (bt s (x.readyAt v r (s.extract q.toNat r.toNat)).pos) = false) := ⟨by rw [← isSp_run s q q1, HRq.out]; rfl⟩
        have y0 : 0 ≤ (x.readyAt v r (s.extract q.toNat r.toNat)).pos := rn
        have y1 : (x.readyAt v r (s.extract q.toNat r.toNat)).pos ≤ (s.size : Int) := rs
        cases hdt : x.dot with
        | false =>
          have HDT := Aside0.mk hdt
          clear hdt
          cases htk : tok s (isFd (kd x.kind.toList)) r with
          | none =>
            have HTK : Aside0 (tokR (x.readyAt v r (s.extract q.toNat r.toNat)) (tok s (isFd (kd (x.readyAt v r (s.extract q.toNat r.toNat)).last.toList)) (x.readyAt v r (s.extract q.toNat r.toNat)).pos) = none) := ⟨by show tokR _ (tok s (isFd (kd x.kind.toList)) r) = none; rw [htk]; rfl⟩
            have hRn : Aside0 (RR = none) := ⟨by rw [← HR2.out]; unfold stepAt; rw [HDT.out, if_neg (by decide), htk]⟩
            obtain rfl := hRn.out
            clear htk
            go_wp2_with (first
                  | (go_at_call 51; (with_reducible refine (skipSpaces_c _ b fb _ s hLr hFr hA p0 p1 hs6).mono ?_); rintro e w1 ⟨rfl, hU1, hL1'⟩; have hL1 : IsL w1 b fb { x.clear with com := v, pos := r } := (by have h5 := hL1'; rw [show run isSp s ({ x.clear with com := v, pos := q } : St).pos = r from HRq.out] at h5; exact h5); have hX1 := hXr.step hU1 hL1; have A0 := hL1.c0; have A9 : w1.cell? ⟨b, 9, none⟩ = some (.int .i64 r) := hL1.c9; have A1 := hX1.isF.buf; clear hL1'))
            go_quiet (fail)
            go_wp2_with (first
                  | (go_at_call 52; (with_reducible refine (skipComment_c _ b fb _ s (hX1.drewN _) hT r0 r1).mono ?_); rintro e w2 hsk; rw [show comm s ({ x.clear with com := v, pos := r } : St).pos = _ from HC.out] at hsk; obtain ⟨rfl, hU2, hL2⟩ := hsk; have hUr2 : Ups b wr w2 := ((hU1.drewN _).trans hU2); have hX2 := hXr.step hUr2 hL2; have B0 := hL2.c0; have B9 : w2.cell? ⟨b, 9, none⟩ = some (.int .i64 r) := hL2.c9; have B3 : w2.cell? ⟨b, 3, none⟩ = some (.string ⟨#[]⟩) := hL2.c3; have B7 : w2.cell? ⟨b, 7, none⟩ = some (.int .i64 0) := hL2.c7; have B11 : w2.cell? ⟨b, 11, none⟩ = some (.bool false) := (by rw [← HDT.out]; exact hL2.c11); have Z3 := hL2.free 3; have Z7 := hL2.free 7; have hXY := readyAt_lx hX2 (s.extract q.toNat r.toNat))
                  | (go_at_call 54; (with_reducible refine (HT.out _ (x.readyAt v r (s.extract q.toNat r.toNat)) hXY y0 y1 HN35.out HNSP.out).mono ?_); rintro e w4 hrd; rw [HTK.out] at hrd; obtain ⟨⟨g, rfl⟩, hU4⟩ := hrd))
            exact ⟨rfl, ⟨g, rfl⟩, ((((hU.trans hUr2).set 3 _).set 7 _).two fb).trans hU4⟩
          | some ke =>
            obtain ⟨k4, e4⟩ := ke
            have hin := tok_in s _ r e4 k4 rn rs htk
            have e41 := hin.1
            have e42 := hin.2.1
            have e40 : 0 ≤ e4 := by omega
            have HTK : Aside0 (tokR (x.readyAt v r (s.extract q.toNat r.toNat)) (tok s (isFd (kd (x.readyAt v r (s.extract q.toNat r.toNat)).last.toList)) (x.readyAt v r (s.extract q.toNat r.toNat)).pos) = some (k4, e4, if k4 = .dot then isFd (kd x.kind.toList) else x.dot)) := ⟨by show tokR _ (tok s (isFd (kd x.kind.toList)) r) = _; rw [htk]; rfl⟩
            have hRn : Aside0 (RR = some ⟨firstC s x.pos, r, k4, e4⟩) := ⟨by rw [← HR2.out]; unfold stepAt; rw [HDT.out, if_neg (by decide), htk]⟩
            clear htk hin
            go_wp2_with (first
                  | (go_at_call 51; (with_reducible refine (skipSpaces_c _ b fb _ s hLr hFr hA p0 p1 hs6).mono ?_); rintro e w1 ⟨rfl, hU1, hL1'⟩; have hL1 : IsL w1 b fb { x.clear with com := v, pos := r } := (by have h5 := hL1'; rw [show run isSp s ({ x.clear with com := v, pos := q } : St).pos = r from HRq.out] at h5; exact h5); have hX1 := hXr.step hU1 hL1; have A0 := hL1.c0; have A9 : w1.cell? ⟨b, 9, none⟩ = some (.int .i64 r) := hL1.c9; have A1 := hX1.isF.buf; clear hL1'))
            go_quiet (fail)
            go_wp2_with (first
                  | (go_at_call 52; (with_reducible refine (skipComment_c _ b fb _ s (hX1.drewN _) hT r0 r1).mono ?_); rintro e w2 hsk; rw [show comm s ({ x.clear with com := v, pos := r } : St).pos = _ from HC.out] at hsk; obtain ⟨rfl, hU2, hL2⟩ := hsk; have hUr2 : Ups b wr w2 := ((hU1.drewN _).trans hU2); have hX2 := hXr.step hUr2 hL2; have B0 := hL2.c0; have B9 : w2.cell? ⟨b, 9, none⟩ = some (.int .i64 r) := hL2.c9; have B3 : w2.cell? ⟨b, 3, none⟩ = some (.string ⟨#[]⟩) := hL2.c3; have B7 : w2.cell? ⟨b, 7, none⟩ = some (.int .i64 0) := hL2.c7; have B11 : w2.cell? ⟨b, 11, none⟩ = some (.bool false) := (by rw [← HDT.out]; exact hL2.c11); have Z3 := hL2.free 3; have Z7 := hL2.free 7; have hXY := readyAt_lx hX2 (s.extract q.toNat r.toNat))
                  | (go_at_call 54; (with_reducible refine (HT.out _ (x.readyAt v r (s.extract q.toNat r.toNat)) hXY y0 y1 HN35.out HNSP.out).mono ?_); rintro e w4 hrd; rw [HTK.out] at hrd; obtain ⟨rfl, hU4, K4, T4, B4, hk4, hL4⟩ := hrd; have HK4 := Aside0.mk hk4; clear hk4; have hF4 := hXY.isF.ups hU4 hne; have D0 := hL4.c0; have D9 : w4.cell? ⟨b, 9, none⟩ = some (.int .i64 e4) := hL4.c9; have D1 := hF4.buf; have D4 : w4.cell? ⟨b, 4, none⟩ = some (.string ⟨#[]⟩) := hL4.c4; have D8 : w4.cell? ⟨b, 8, none⟩ = some (.int .i64 0) := hL4.c8; have Y4 := hL4.free 4; have Y8 := hL4.free 8))
            go_still_tail 17, (by kernel_rfl)
            go_wp2
            go_end0
            have hUe := (((((((hUr2.set 3 _).set 7 _).trans hU4).drew).set 4 (.string (s.extract r.toNat e4.toNat))).set 8 (.int .i64 e4)))
            rw [hRn.out]
            exact ⟨rfl, hU.trans hUe, _, n, (hL4.drew.set4 _).set8 _, HK4.out, rfl, rfl, by rw [← dot_of (kd x.kind.toList) k4, ← HDT.out], by rw [← hcc.out]; exact (HU.out.2).ups hUe hblt⟩
        | true =>
          have HDT := Aside0.mk hdt
          have HKD : Aside0 (kd x.kind.toList = .dot) := ⟨HD.out hdt⟩
          clear hdt
          have HTF : Aside0 (∀ W, Lx0 W b fb s (x.readyAt v r (s.extract q.toNat r.toNat)) → Calls Tryz.prog 54 #[.pointer (some ⟨b, 0, none⟩), .bool false] W (Reads b fb (x.readyAt v r (s.extract q.toNat r.toNat)) (tokR (x.readyAt v r (s.extract q.toNat r.toNat)) (tok s false (x.readyAt v r (s.extract q.toNat r.toNat)).pos)) W)) := ⟨fun W hW => by
            have h5 := HT.out W (x.readyAt v r (s.extract q.toNat r.toNat)) hW y0 y1 HN35.out HNSP.out
            rw [show isFd (kd (x.readyAt v r (s.extract q.toNat r.toNat)).last.toList) = false from by show isFd (kd x.kind.toList) = false; rw [HKD.out]; rfl] at h5
            exact h5⟩
          cases htk : tokF s r with
          | none =>
            have HTK : Aside0 (tokR (x.readyAt v r (s.extract q.toNat r.toNat)) (tokF s (x.readyAt v r (s.extract q.toNat r.toNat)).pos) = none) := ⟨by show tokR _ (tokF s r) = none; rw [htk]; rfl⟩
            have hRn : Aside0 (RR = none) := ⟨by rw [← HR2.out]; unfold stepAt; rw [HDT.out, if_pos rfl, htk]⟩
            obtain rfl := hRn.out
            clear htk
            go_wp2_with (first
                  | (go_at_call 51; (with_reducible refine (skipSpaces_c _ b fb _ s hLr hFr hA p0 p1 hs6).mono ?_); rintro e w1 ⟨rfl, hU1, hL1'⟩; have hL1 : IsL w1 b fb { x.clear with com := v, pos := r } := (by have h5 := hL1'; rw [show run isSp s ({ x.clear with com := v, pos := q } : St).pos = r from HRq.out] at h5; exact h5); have hX1 := hXr.step hU1 hL1; have A0 := hL1.c0; have A9 : w1.cell? ⟨b, 9, none⟩ = some (.int .i64 r) := hL1.c9; have A1 := hX1.isF.buf; clear hL1'))
            go_quiet (fail)
            go_wp2_with (first
                  | (go_at_call 52; (with_reducible refine (skipComment_c _ b fb _ s (hX1.drewN _) hT r0 r1).mono ?_); rintro e w2 hsk; rw [show comm s ({ x.clear with com := v, pos := r } : St).pos = _ from HC.out] at hsk; obtain ⟨rfl, hU2, hL2⟩ := hsk; have hUr2 : Ups b wr w2 := ((hU1.drewN _).trans hU2); have hX2 := hXr.step hUr2 hL2; have B0 := hL2.c0; have B9 : w2.cell? ⟨b, 9, none⟩ = some (.int .i64 r) := hL2.c9; have B3 : w2.cell? ⟨b, 3, none⟩ = some (.string ⟨#[]⟩) := hL2.c3; have B7 : w2.cell? ⟨b, 7, none⟩ = some (.int .i64 0) := hL2.c7; have B11 : w2.cell? ⟨b, 11, none⟩ = some (.bool true) := (by rw [← HDT.out]; exact hL2.c11); have Z3 := hL2.free 3; have Z7 := hL2.free 7; have hXY := readyAt_lx hX2 (s.extract q.toNat r.toNat))
                  | (go_at_call 53; (with_reducible refine (field_c _ b fb (x.readyAt v r (s.extract q.toNat r.toNat)) s hXY hs y0 y1 HTF.out).mono ?_); rintro e w4 hrd; rw [HTK.out] at hrd; obtain ⟨⟨g, rfl⟩, hU4⟩ := hrd))
            exact ⟨rfl, ⟨g, rfl⟩, ((((hU.trans hUr2).set 3 _).set 7 _).two fb).trans hU4⟩
          | some ke =>
            obtain ⟨k4, e4⟩ := ke
            have hin := tokF_in s r e4 k4 rn rs htk
            have e41 := hin.1
            have e42 := hin.2.1
            have e40 : 0 ≤ e4 := by omega
            have HTK : Aside0 (tokR (x.readyAt v r (s.extract q.toNat r.toNat)) (tokF s (x.readyAt v r (s.extract q.toNat r.toNat)).pos) = some (k4, e4, if k4 = .dot then isFd (kd x.kind.toList) else x.dot)) := ⟨by show tokR _ (tokF s r) = _; rw [htk]; rfl⟩
            have hRn : Aside0 (RR = some ⟨firstC s x.pos, r, k4, e4⟩) := ⟨by rw [← HR2.out]; unfold stepAt; rw [HDT.out, if_pos rfl, htk]⟩
            clear htk hin
            go_wp2_with (first
                  | (go_at_call 51; (with_reducible refine (skipSpaces_c _ b fb _ s hLr hFr hA p0 p1 hs6).mono ?_); rintro e w1 ⟨rfl, hU1, hL1'⟩; have hL1 : IsL w1 b fb { x.clear with com := v, pos := r } := (by have h5 := hL1'; rw [show run isSp s ({ x.clear with com := v, pos := q } : St).pos = r from HRq.out] at h5; exact h5); have hX1 := hXr.step hU1 hL1; have A0 := hL1.c0; have A9 : w1.cell? ⟨b, 9, none⟩ = some (.int .i64 r) := hL1.c9; have A1 := hX1.isF.buf; clear hL1'))
            go_quiet (fail)
            go_wp2_with (first
                  | (go_at_call 52; (with_reducible refine (skipComment_c _ b fb _ s (hX1.drewN _) hT r0 r1).mono ?_); rintro e w2 hsk; rw [show comm s ({ x.clear with com := v, pos := r } : St).pos = _ from HC.out] at hsk; obtain ⟨rfl, hU2, hL2⟩ := hsk; have hUr2 : Ups b wr w2 := ((hU1.drewN _).trans hU2); have hX2 := hXr.step hUr2 hL2; have B0 := hL2.c0; have B9 : w2.cell? ⟨b, 9, none⟩ = some (.int .i64 r) := hL2.c9; have B3 : w2.cell? ⟨b, 3, none⟩ = some (.string ⟨#[]⟩) := hL2.c3; have B7 : w2.cell? ⟨b, 7, none⟩ = some (.int .i64 0) := hL2.c7; have B11 : w2.cell? ⟨b, 11, none⟩ = some (.bool true) := (by rw [← HDT.out]; exact hL2.c11); have Z3 := hL2.free 3; have Z7 := hL2.free 7; have hXY := readyAt_lx hX2 (s.extract q.toNat r.toNat))
                  | (go_at_call 53; (with_reducible refine (field_c _ b fb (x.readyAt v r (s.extract q.toNat r.toNat)) s hXY hs y0 y1 HTF.out).mono ?_); rintro e w4 hrd; rw [HTK.out] at hrd; obtain ⟨rfl, hU4, K4, T4, B4, hk4, hL4⟩ := hrd; have HK4 := Aside0.mk hk4; clear hk4; have hF4 := hXY.isF.ups hU4 hne; have D0 := hL4.c0; have D9 : w4.cell? ⟨b, 9, none⟩ = some (.int .i64 e4) := hL4.c9; have D1 := hF4.buf; have D4 : w4.cell? ⟨b, 4, none⟩ = some (.string ⟨#[]⟩) := hL4.c4; have D8 : w4.cell? ⟨b, 8, none⟩ = some (.int .i64 0) := hL4.c8; have Y4 := hL4.free 4; have Y8 := hL4.free 8; have D11 := hL4.c11; have Y11 := hL4.free 11))
            refine wp_any ?_
            intro wz hwz
            have hLz : IsL wz b fb { (x.readyAt v r (s.extract q.toNat r.toNat)) with kind := K4, txt := T4, base := B4, pos := e4, dot := false } := by rw [hwz]; exact hL4.set11 false
            have hUz : Ups b wr wz := by rw [hwz]; exact (((hUr2.set 3 _).set 7 _).trans hU4).set 11 _
            clear hwz D0 D9 D1 D4 D8 Y4 Y8 D11 Y11
            have E0 := hLz.c0
            have E9 : wz.cell? ⟨b, 9, none⟩ = some (.int .i64 e4) := hLz.c9
            have E1 := (hFr.ups hUz hne).buf
            have E4 : wz.cell? ⟨b, 4, none⟩ = some (.string ⟨#[]⟩) := hLz.c4
            have E8 : wz.cell? ⟨b, 8, none⟩ = some (.int .i64 0) := hLz.c8
            have F4 := hLz.free 4
            have F8 := hLz.free 8
            go_still_tail 17, (by kernel_rfl)
            go_wp2
            go_end0
            have hUe := ((hUz.drew).set 4 (.string (s.extract r.toNat e4.toNat))).set 8 (.int .i64 e4)
            rw [hRn.out]
            exact ⟨rfl, hU.trans hUe, _, n, (hLz.drew.set4 _).set8 _, HK4.out, rfl, rfl, by rw [HKD.out]; exact (dotOf_dot _).symm, by rw [← hcc.out]; exact (HU.out.2).ups hUe hblt⟩

      · have HC := Aside0.mk hcm
        have heq : (e == r) = false := beqf her
        have hlt := hce.2.2 her
        have e1 := hce.2.1
        have HE := Aside0.mk her
        clear hcm hce her
        have e0 : 0 ≤ e := by omega
        have re : r ≤ e := by omega
        have hnb : n ≤ 100000 := by have := HA.out.2.2.2.2.1; omega
        go_wp2_with (first
            | (go_at_call 51; (with_reducible refine (skipSpaces_c _ b fb _ s hLr hFr hA p0 p1 hs6).mono ?_); rintro e w1 ⟨rfl, hU1, hL1'⟩; have hL1 : IsL w1 b fb { x.clear with com := v, pos := r } := (by have h5 := hL1'; rw [show run isSp s ({ x.clear with com := v, pos := q } : St).pos = r from HRq.out] at h5; exact h5); have hX1 := hXr.step hU1 hL1; have A0 := hL1.c0; have A9 : w1.cell? ⟨b, 9, none⟩ = some (.int .i64 r) := hL1.c9; have A1 := hX1.isF.buf; clear hL1'))
        go_quiet (fail)
        go_wp2_with (first
            | (go_at_call 52; (with_reducible refine (skipComment_c _ b fb _ s (hX1.drewN _) hT r0 r1).mono ?_); rintro e w2 hsk; rw [show comm s ({ x.clear with com := v, pos := r } : St).pos = _ from HC.out] at hsk; obtain ⟨rfl, hU2, hL2⟩ := hsk; have hU2w : Ups b w w2 := (((hU.trans hU1).drewN _).trans hU2); have B0 := hL2.c0; have B9 : w2.cell? ⟨b, 9, none⟩ = some (.int .i64 e) := hL2.c9; have B2 : w2.cell? ⟨b, 2, none⟩ = some v := hL2.c2; have hX2 := h.step hU2w hL2; have B1 := hX2.isF.buf))
        have hC2 : ComAt w2 w.heap.size v n c := (HU.out.2.ups hU1 hblt).ups (((Ups.refl b w1).drewN _).trans hU2) hblt
        have hsz2 : w.heap.size ≤ w2.heap.size := hU2w.size
        have B2a : ∀ o, (w2.alloc o).cell? ⟨b, 2, none⟩ = some v := fun o => (hL2.alloc o).c2
        refine wp_region_noPanic ?_
        refine wp_region_held_drew (S := fun W => W.cell? ⟨b, 0, none⟩ = some (.pointer (some ⟨fb, 0, none⟩)) ∧ W.cell? ⟨b, 9, none⟩ = some (.int .i64 e) ∧ W.cell? ⟨fb, 1, none⟩ = some (.string s)) (by kernel_rfl) ⟨B0, B9, B1⟩ (fun hHeld => ?_)
        refine wpAnyH_take (i := 0) (oi := ?oi1) (v := ?v1) ?hi1 (by kernel_rfl) (by kernel_rfl) (by kernel_rfl) (fun _ _ _ h => h) ?hy1 hHeld ?re1
        case hi1 => (simp only [List.getElem?_toArray, List.getElem?_cons_zero]; rfl)
        case hy1 =>
          refine Or.inl ⟨by rfl, ?_⟩
          intro wq hSw
          go_split_ands
          go_simp
          try with_reducible rfl
        (try simp only [Act.put, List.setIfInBounds_toArray, List.set_cons_zero, List.set_cons_succ])
        refine wpAnyH_take (i := 1) (oi := ?oi2) (v := ?v2) ?hi2 (by kernel_rfl) (by kernel_rfl) (by kernel_rfl) (fun _ _ _ h => h) ?hy2 hHeld ?re2
        case hi2 => (simp only [List.getElem?_toArray, List.getElem?_cons_succ, List.getElem?_cons_zero]; rfl)
        case hy2 =>
          refine Or.inl ⟨by rfl, ?_⟩
          intro wq hSw
          go_split_ands
          go_simp
          try with_reducible rfl
        (try simp only [Act.put, List.setIfInBounds_toArray, List.set_cons_zero, List.set_cons_succ])
        refine wpAnyH_take (i := 2) (oi := ?oi3) (v := ?v3) ?hi3 (by kernel_rfl) (by kernel_rfl) (by kernel_rfl) (fun _ _ _ h => h) ?hy3 hHeld ?re3
        case hi3 => (simp only [List.getElem?_toArray, List.getElem?_cons_succ, List.getElem?_cons_zero]; rfl)
        case hy3 =>
          refine Or.inl ⟨by rfl, ?_⟩
          intro wq hSw
          go_split_ands
          go_simp
          try with_reducible rfl
        (try simp only [Act.put, List.setIfInBounds_toArray, List.set_cons_zero, List.set_cons_succ])
        refine wpAnyH_take (i := 3) (oi := ?oi4) (v := ?v4) ?hi4 (by kernel_rfl) (by kernel_rfl) (by kernel_rfl) (fun _ _ _ h => h) ?hy4 hHeld ?re4
        case hi4 => (simp only [List.getElem?_toArray, List.getElem?_cons_succ, List.getElem?_cons_zero]; rfl)
        case hy4 =>
          refine Or.inl ⟨by rfl, ?_⟩
          intro wq hSw
          go_split_ands
          go_simp
          try with_reducible rfl
        (try simp only [Act.put, List.setIfInBounds_toArray, List.set_cons_zero, List.set_cons_succ])
        refine wpAnyH_take (i := 4) (oi := ?oi5) (v := ?v5) ?hi5 (by kernel_rfl) (by kernel_rfl) (by kernel_rfl) (fun _ _ _ h => h) ?hy5 hHeld ?re5
        case hi5 => (simp only [List.getElem?_toArray, List.getElem?_cons_succ, List.getElem?_cons_zero]; rfl)
        case hy5 =>
          refine Or.inl ⟨by rfl, ?_⟩
          intro wq hSw
          go_split_ands
          go_simp
          try with_reducible rfl
        (try simp only [Act.put, List.setIfInBounds_toArray, List.set_cons_zero, List.set_cons_succ])
        refine wpAnyH_take (i := 6) (oi := ?oi6) (v := ?v6) ?hi6 (by kernel_rfl) (by kernel_rfl) (by kernel_rfl) (fun _ _ _ h => h) ?hy6 hHeld ?re6
        case hi6 => (simp only [List.getElem?_toArray, List.getElem?_cons_succ, List.getElem?_cons_zero]; rfl)
        case hy6 =>
          refine Or.inl ⟨by rfl, ?_⟩
          intro wq hSw
          go_split_ands
          go_simp
          try with_reducible rfl
        (try simp only [Act.put, List.setIfInBounds_toArray, List.set_cons_zero, List.set_cons_succ])
        refine wpAnyH_take (i := 7) (oi := ?oi7) (v := ?v7) ?hi7 (by kernel_rfl) (by kernel_rfl) (by kernel_rfl) (fun _ _ _ h => h) ?hy7 hHeld ?re7
        case hi7 => (simp only [List.getElem?_toArray, List.getElem?_cons_succ, List.getElem?_cons_zero]; rfl)
        case hy7 =>
          refine Or.inl ⟨by rfl, ?_⟩
          intro wq hSw
          go_split_ands
          go_simp
          try with_reducible rfl
        (try simp only [Act.put, List.setIfInBounds_toArray, List.set_cons_zero, List.set_cons_succ])
        refine wpAnyH_take (i := 8) (oi := ?oi8) (v := ?v8) ?hi8 (by kernel_rfl) (by kernel_rfl) (by kernel_rfl) (fun _ _ _ h => h) ?hy8 hHeld ?re8
        case hi8 => (simp only [List.getElem?_toArray, List.getElem?_cons_succ, List.getElem?_cons_zero]; rfl)
        case hy8 =>
          refine Or.inl ⟨by rfl, ?_⟩
          intro wq hSw
          go_split_ands
          go_simp
          try with_reducible rfl
        (try simp only [Act.put, List.setIfInBounds_toArray, List.set_cons_zero, List.set_cons_succ])
        refine wpAnyH_take (i := 9) (oi := ?oi9) (v := ?v9) ?hi9 (by kernel_rfl) (by kernel_rfl) (by kernel_rfl) (fun _ _ _ h => h) ?hy9 hHeld ?re9
        case hi9 => (simp only [List.getElem?_toArray, List.getElem?_cons_succ, List.getElem?_cons_zero]; rfl)
        case hy9 =>
          refine Or.inl ⟨by rfl, ?_⟩
          intro wq hSw
          go_split_ands
          go_simp
          try with_reducible rfl
        (try simp only [Act.put, List.setIfInBounds_toArray, List.set_cons_zero, List.set_cons_succ])
        refine wpAnyH_take (i := 10) (oi := ?oi10) (v := ?v10) ?hi10 (by kernel_rfl) (by kernel_rfl) (by kernel_rfl) (fun _ _ _ h => h) ?hy10 hHeld ?re10
        case hi10 => (simp only [List.getElem?_toArray, List.getElem?_cons_succ, List.getElem?_cons_zero]; rfl)
        case hy10 =>
          refine Or.inl ⟨by rfl, ?_⟩
          intro wq hSw
          go_split_ands
          go_simp
          try with_reducible rfl
        (try simp only [Act.put, List.setIfInBounds_toArray, List.set_cons_zero, List.set_cons_succ])
        refine wpAnyH_take (i := 11) (oi := ?oi11) (v := ?v11) ?hi11 (by kernel_rfl) (by kernel_rfl) (by kernel_rfl) (fun _ _ _ h => h) ?hy11 hHeld ?re11
        case hi11 => (simp only [List.getElem?_toArray, List.getElem?_cons_succ, List.getElem?_cons_zero]; rfl)
        case hy11 =>
          refine Or.inl ⟨by rfl, ?_⟩
          intro wq hSw
          go_split_ands
          go_simp
          try with_reducible rfl
        (try simp only [Act.put, List.setIfInBounds_toArray, List.set_cons_zero, List.set_cons_succ])
        refine wpAnyH_take (i := 12) (oi := ?oi12) (v := ?v12) ?hi12 (by kernel_rfl) (by kernel_rfl) (by kernel_rfl) (fun _ _ _ h => h) ?hy12 hHeld ?re12
        case hi12 => (simp only [List.getElem?_toArray, List.getElem?_cons_succ, List.getElem?_cons_zero]; rfl)
        case hy12 =>
          refine Or.inl ⟨by rfl, ?_⟩
          intro wq hSw
          go_split_ands
          go_simp
          try with_reducible rfl
        (try simp only [Act.put, List.setIfInBounds_toArray, List.set_cons_zero, List.set_cons_succ])
        refine wpAnyH_take (i := 13) (oi := ?oi13) (v := ?v13) ?hi13 (by kernel_rfl) (by kernel_rfl) (by kernel_rfl) (fun _ _ _ h => h) ?hy13 hHeld ?re13
        case hi13 => (simp only [List.getElem?_toArray, List.getElem?_cons_succ, List.getElem?_cons_zero]; rfl)
        case hy13 =>
          refine Or.inl ⟨by rfl, ?_⟩
          intro wq hSw
          go_split_ands
          go_simp
          try with_reducible rfl
        (try simp only [Act.put, List.setIfInBounds_toArray, List.set_cons_zero, List.set_cons_succ])
        refine wpAnyH_take (i := 14) (oi := ?oi14) (v := ?v14) ?hi14 (by kernel_rfl) (by kernel_rfl) (by kernel_rfl) (fun _ _ _ h => h) ?hy14 hHeld ?re14
        case hi14 => (simp only [List.getElem?_toArray, List.getElem?_cons_succ, List.getElem?_cons_zero]; rfl)
        case hy14 =>
          refine Or.inl ⟨by rfl, ?_⟩
          intro wq hSw
          go_split_ands
          go_simp
          try with_reducible rfl
        (try simp only [Act.put, List.setIfInBounds_toArray, List.set_cons_zero, List.set_cons_succ])
        refine wpAnyH_take (i := 15) (oi := ?oi15) (v := ?v15) ?hi15 (by kernel_rfl) (by kernel_rfl) (by kernel_rfl) (fun _ _ _ h => h) ?hy15 hHeld ?re15
        case hi15 => (simp only [List.getElem?_toArray, List.getElem?_cons_succ, List.getElem?_cons_zero]; rfl)
        case hy15 =>
          refine Or.inl ⟨by rfl, ?_⟩
          intro wq hSw
          go_split_ands
          go_simp
          try with_reducible rfl
        (try simp only [Act.put, List.setIfInBounds_toArray, List.set_cons_zero, List.set_cons_succ])
        refine wpAnyH_take (i := 16) (oi := ?oi16) (v := ?v16) ?hi16 (by kernel_rfl) (by kernel_rfl) (by kernel_rfl) (fun _ _ _ h => h) ?hy16 hHeld ?re16
        case hi16 => (simp only [List.getElem?_toArray, List.getElem?_cons_succ, List.getElem?_cons_zero]; rfl)
        case hy16 =>
          refine Or.inl ⟨by rfl, ?_⟩
          intro wq hSw
          go_split_ands
          go_simp
          try with_reducible rfl
        (try simp only [Act.put, List.setIfInBounds_toArray, List.set_cons_zero, List.set_cons_succ])
        refine wpAnyH_take (i := 17) (oi := ?oi17) (v := ?v17) ?hi17 (by kernel_rfl) (by kernel_rfl) (by kernel_rfl) (fun _ _ _ h => h) ?hy17 hHeld ?re17
        case hi17 => (simp only [List.getElem?_toArray, List.getElem?_cons_succ, List.getElem?_cons_zero]; rfl)
        case hy17 =>
          refine Or.inl ⟨by rfl, ?_⟩
          intro wq hSw
          go_split_ands
          go_simp
          try with_reducible rfl
        (try simp only [Act.put, List.setIfInBounds_toArray, List.set_cons_zero, List.set_cons_succ])
        refine wpAnyH_take (i := 18) (oi := ?oi18) (v := ?v18) ?hi18 (by kernel_rfl) (by kernel_rfl) (by kernel_rfl) (fun _ _ _ h => h) ?hy18 hHeld ?re18
        case hi18 => (simp only [List.getElem?_toArray, List.getElem?_cons_succ, List.getElem?_cons_zero]; rfl)
        case hy18 =>
          refine Or.inl ⟨by rfl, ?_⟩
          intro wq hSw
          go_split_ands
          go_simp
          try with_reducible rfl
        (try simp only [Act.put, List.setIfInBounds_toArray, List.set_cons_zero, List.set_cons_succ])
        refine wpAnyH_take (i := 19) (oi := ?oi19) (v := ?v19) ?hi19 (by kernel_rfl) (by kernel_rfl) (by kernel_rfl) (fun _ _ _ h => h) ?hy19 hHeld ?re19
        case hi19 => (simp only [List.getElem?_toArray, List.getElem?_cons_succ, List.getElem?_cons_zero]; rfl)
        case hy19 =>
          refine Or.inl ⟨by rfl, ?_⟩
          intro wq hSw
          go_split_ands
          go_simp
          try with_reducible rfl
        (try simp only [Act.put, List.setIfInBounds_toArray, List.set_cons_zero, List.set_cons_succ])
        refine wpAnyH_take (i := 20) (oi := ?oi20) (v := ?v20) ?hi20 (by kernel_rfl) (by kernel_rfl) (by kernel_rfl) (fun _ _ _ h => h) ?hy20 hHeld ?re20
        case hi20 => (simp only [List.getElem?_toArray, List.getElem?_cons_succ, List.getElem?_cons_zero]; rfl)
        case hy20 =>
          refine Or.inl ⟨by rfl, ?_⟩
          intro wq hSw
          go_split_ands
          go_simp
          try with_reducible rfl
        (try simp only [Act.put, List.setIfInBounds_toArray, List.set_cons_zero, List.set_cons_succ])
        refine wpAnyH_take (i := 21) (oi := ?oi21) (v := ?v21) ?hi21 (by kernel_rfl) (by kernel_rfl) (by kernel_rfl) (fun _ _ _ h => h) ?hy21 hHeld ?re21
        case hi21 => (simp only [List.getElem?_toArray, List.getElem?_cons_succ, List.getElem?_cons_zero]; rfl)
        case hy21 =>
          refine Or.inl ⟨by rfl, ?_⟩
          intro wq hSw
          go_split_ands
          go_simp
          try with_reducible rfl
        (try simp only [Act.put, List.setIfInBounds_toArray, List.set_cons_zero, List.set_cons_succ])
        refine wpAnyH_take (i := 22) (oi := ?oi22) (v := ?v22) ?hi22 (by kernel_rfl) (by kernel_rfl) (by kernel_rfl) (fun _ _ _ h => h) ?hy22 hHeld ?re22
        case hi22 => (simp only [List.getElem?_toArray, List.getElem?_cons_succ, List.getElem?_cons_zero]; rfl)
        case hy22 =>
          refine Or.inl ⟨by rfl, ?_⟩
          intro wq hSw
          go_split_ands
          go_simp
          try with_reducible rfl
        (try simp only [Act.put, List.setIfInBounds_toArray, List.set_cons_zero, List.set_cons_succ])
        refine wpAnyH_take (i := 23) (oi := ?oi23) (v := ?v23) ?hi23 (by kernel_rfl) (by kernel_rfl) (by kernel_rfl) (fun _ _ _ h => h) ?hy23 hHeld ?re23
        case hi23 => (simp only [List.getElem?_toArray, List.getElem?_cons_succ, List.getElem?_cons_zero]; rfl)
        case hy23 =>
          refine Or.inl ⟨by rfl, ?_⟩
          intro wq hSw
          go_split_ands
          go_simp
          try with_reducible rfl
        (try simp only [Act.put, List.setIfInBounds_toArray, List.set_cons_zero, List.set_cons_succ])
        refine wpAnyH_take (i := 24) (oi := ?oi24) (v := ?v24) ?hi24 (by kernel_rfl) (by kernel_rfl) (by kernel_rfl) (fun _ _ _ h => h) ?hy24 hHeld ?re24
        case hi24 => (simp only [List.getElem?_toArray, List.getElem?_cons_succ, List.getElem?_cons_zero]; rfl)
        case hy24 =>
          refine Or.inl ⟨by rfl, ?_⟩
          intro wq hSw
          go_split_ands
          go_simp
          try with_reducible rfl
        (try simp only [Act.put, List.setIfInBounds_toArray, List.set_cons_zero, List.set_cons_succ])
        refine wpAnyH_take (i := 25) (oi := ?oi25) (v := ?v25) ?hi25 (by kernel_rfl) (by kernel_rfl) (by kernel_rfl) (fun _ _ _ h => h) ?hy25 hHeld ?re25
        case hi25 => (simp only [List.getElem?_toArray, List.getElem?_cons_succ, List.getElem?_cons_zero]; rfl)
        case hy25 =>
          refine Or.inl ⟨by rfl, ?_⟩
          intro wq hSw
          go_split_ands
          go_simp
          try with_reducible rfl
        (try simp only [Act.put, List.setIfInBounds_toArray, List.set_cons_zero, List.set_cons_succ])
        refine wpAnyH_ready (rs := [5, 26]) (by kernel_rfl) (by simp) ?_
        refine AllReadyH.cons (o := ?o26) ?ho26 (fun K hK => ?st26) ?mo26
        case ho26 => (simp only [List.getElem?_toArray, List.getElem?_cons_succ, List.getElem?_cons_zero]; rfl)
        case st26 =>
          go_simp
          refine hK.out _ _ hHeld (fun hHeld => ?_)
          clear hK K
          (try simp only [Act.put, List.setIfInBounds_toArray, List.set_cons_zero, List.set_cons_succ])
          refine wpAnyH_ready (rs := [26]) (by kernel_rfl) (by simp) ?_
          refine AllReadyH.cons (o := ?o27) ?ho27 (fun K hK => ?st27) AllReadyH.nil
          case ho27 => (simp only [List.getElem?_toArray, List.getElem?_cons_succ, List.getElem?_cons_zero]; rfl)
          case st27 =>
            go_simp
            refine hK.out _ _ ⟨(hL2.alloc _).c0, (hL2.alloc _).c9, ((hX2.isF).ups ((Ups.refl b w2).alloc _) hne).buf⟩ (fun hHeld => ?_)
            clear hK K
            (try simp only [Act.put, List.setIfInBounds_toArray, List.set_cons_zero, List.set_cons_succ])
            refine wpAnyH_ready (rs := [27]) (by kernel_rfl) (by simp) ?_
            refine AllReadyH.cons (o := ?o28) ?ho28 (fun K hK => ?st28) AllReadyH.nil
            case ho28 => (simp only [List.getElem?_toArray, List.getElem?_cons_succ, List.getElem?_cons_zero]; rfl)
            case st28 =>
              refine step_append_com w.heap.size rfl (.tmp 57) (.tmp 78) rfl v n c _ _ _ _ rfl rfl hC2 hsz2 hnb ?_
              intro g3 cap3 w3 HC3 hg3
              have hob : ∀ k, v.ownBlock = some k → w.heap.size ≤ k := hC2.base
              have hL3 : IsL w3 b fb { x.clear with com := v, pos := e } := ((hg3.block b (Nat.lt_of_lt_of_le hblt hsz2) (fun he => by have := hob b he.symm; omega)).trans hL2)
              have hU3 : Ups b w w3 := hU2w.grown hg3 hob
              have hX3 := h.step hU3 hL3
              have K2 := hL3.c2
              have Y2 := hL3.free 2
              refine hK.out _ _ ⟨hL3.c0, hL3.c9, hX3.isF.buf⟩ (fun hHeld => ?_)
              clear hK K
              (try simp only [Act.put, List.setIfInBounds_toArray, List.set_cons_zero, List.set_cons_succ])
              refine wpAnyH_take (i := 28) (oi := ?oi29) (v := ?v29) ?hi29 (by kernel_rfl) (by kernel_rfl) (by kernel_rfl) (fun _ _ _ h => h) ?hy29 hHeld ?re29
              case hi29 => (simp only [List.getElem?_toArray, List.getElem?_cons_succ, List.getElem?_cons_zero]; rfl)
              case hy29 =>
                refine Or.inl ⟨by rfl, ?_⟩
                intro wq hSw
                go_split_ands
                go_simp
                try with_reducible rfl
              (try simp only [Act.put, List.setIfInBounds_toArray, List.set_cons_zero, List.set_cons_succ])
              refine wpAnyH_take (i := 29) (oi := ?oi30) (v := ?v30) ?hi30 (by kernel_rfl) (by kernel_rfl) (by kernel_rfl) (fun _ _ _ h => h) ?hy30 hHeld ?re30
              case hi30 => (simp only [List.getElem?_toArray, List.getElem?_cons_succ, List.getElem?_cons_zero]; rfl)
              case hy30 =>
                refine Or.inl ⟨by rfl, ?_⟩
                intro wq hSw
                go_split_ands
                go_simp
                try with_reducible rfl
              (try simp only [Act.put, List.setIfInBounds_toArray, List.set_cons_zero, List.set_cons_succ])
              refine wpAnyH_take (i := 30) (oi := ?oi31) (v := ?v31) ?hi31 (by kernel_rfl) (by kernel_rfl) (by kernel_rfl) (fun _ _ _ h => h) ?hy31 hHeld ?re31
              case hi31 => (simp only [List.getElem?_toArray, List.getElem?_cons_succ, List.getElem?_cons_zero]; rfl)
              case hy31 =>
                refine Or.inl ⟨by rfl, ?_⟩
                intro wq hSw
                go_split_ands
                go_simp
                try with_reducible rfl
              (try simp only [Act.put, List.setIfInBounds_toArray, List.set_cons_zero, List.set_cons_succ])
              refine wpAnyH_ready (rs := [31]) (by kernel_rfl) (by simp) ?_
              refine AllReadyH.cons (o := ?o32) ?ho32 (fun K hK => ?st32) AllReadyH.nil
              case ho32 => (simp only [List.getElem?_toArray, List.getElem?_cons_succ, List.getElem?_cons_zero]; rfl)
              case st32 =>
                go_simp
                refine hK.out _ _ ⟨(hL3.set2 _).c0, (hL3.set2 _).c9, ((hX3.isF).ups ((Ups.refl b w3).set 2 _) hne).buf⟩ (fun hHeld => ?_)
                clear hK K
                (try simp only [Act.put, List.setIfInBounds_toArray, List.set_cons_zero, List.set_cons_succ])
                refine wpAnyH_done (by kernel_rfl) ?_ _
                refine NoPanic.normal ?_
                go_wp2
                go_roundg (((s.size : Int) - e).toNat + 1)
                case measure => have := HA.out.2.2.1; omega
                case rel =>
                  have hk2 := HK.out
                  refine ⟨e, _, n + 1, _, ⟨by omega, e1, by omega, ?_, by have := HA.out.2.2.2.2.1; omega, ?_⟩, ⟨hU3.set 2 _, HC3.ups ((Ups.refl b w3).set 2 _) hblt⟩, hL3.set2 _⟩
                  · rw [← HG2.out, gap_on (by rw [HRq.out]; exact HC.out) (by rw [HRq.out]; exact HE.out)]
                    exact gap_more s _ e e0 e1 (by omega) _ (by omega)
                  · rcases HA.out.2.2.2.2.2 with ⟨h5, h6⟩ | ⟨h5, h6⟩
                    · refine .inr ⟨?_, ?_⟩
                      · rw [h5, ← HRq.out, h6]; rfl
                      · rw [← h6, HRq.out, HC.out]
                        intro h7
                        injection h7 with h7
                        exact HE.out h7
                    · exact .inr ⟨by rw [h5]; rfl, h6⟩
        case mo26 =>
          refine AllReadyH.cons (o := ?o33) ?ho33 (fun K hK => ?st33) AllReadyH.nil
          case ho33 => (simp only [List.getElem?_toArray, List.getElem?_cons_succ, List.getElem?_cons_zero]; rfl)
          case st33 =>
            go_simp
            refine hK.out _ _ ⟨(hL2.alloc _).c0, (hL2.alloc _).c9, ((hX2.isF).ups ((Ups.refl b w2).alloc _) hne).buf⟩ (fun hHeld => ?_)
            clear hK K
            (try simp only [Act.put, List.setIfInBounds_toArray, List.set_cons_zero, List.set_cons_succ])
            refine wpAnyH_ready (rs := [5]) (by kernel_rfl) (by simp) ?_
            refine AllReadyH.cons (o := ?o34) ?ho34 (fun K hK => ?st34) AllReadyH.nil
            case ho34 => (simp only [List.getElem?_toArray, List.getElem?_cons_succ, List.getElem?_cons_zero]; rfl)
            case st34 =>
              go_simp
              refine hK.out _ _ hHeld (fun hHeld => ?_)
              clear hK K
              (try simp only [Act.put, List.setIfInBounds_toArray, List.set_cons_zero, List.set_cons_succ])
              refine wpAnyH_ready (rs := [27]) (by kernel_rfl) (by simp) ?_
              refine AllReadyH.cons (o := ?o35) ?ho35 (fun K hK => ?st35) AllReadyH.nil
              case ho35 => (simp only [List.getElem?_toArray, List.getElem?_cons_succ, List.getElem?_cons_zero]; rfl)
              case st35 =>
                refine step_append_com w.heap.size rfl (.tmp 57) (.tmp 78) rfl v n c _ _ _ _ rfl rfl hC2 hsz2 hnb ?_
                intro g3 cap3 w3 HC3 hg3
                have hob : ∀ k, v.ownBlock = some k → w.heap.size ≤ k := hC2.base
                have hL3 : IsL w3 b fb { x.clear with com := v, pos := e } := ((hg3.block b (Nat.lt_of_lt_of_le hblt hsz2) (fun he => by have := hob b he.symm; omega)).trans hL2)
                have hU3 : Ups b w w3 := hU2w.grown hg3 hob
                have hX3 := h.step hU3 hL3
                have K2 := hL3.c2
                have Y2 := hL3.free 2
                refine hK.out _ _ ⟨hL3.c0, hL3.c9, hX3.isF.buf⟩ (fun hHeld => ?_)
                clear hK K
                (try simp only [Act.put, List.setIfInBounds_toArray, List.set_cons_zero, List.set_cons_succ])
                refine wpAnyH_take (i := 28) (oi := ?oi36) (v := ?v36) ?hi36 (by kernel_rfl) (by kernel_rfl) (by kernel_rfl) (fun _ _ _ h => h) ?hy36 hHeld ?re36
                case hi36 => (simp only [List.getElem?_toArray, List.getElem?_cons_succ, List.getElem?_cons_zero]; rfl)
                case hy36 =>
                  refine Or.inl ⟨by rfl, ?_⟩
                  intro wq hSw
                  go_split_ands
                  go_simp
                  try with_reducible rfl
                (try simp only [Act.put, List.setIfInBounds_toArray, List.set_cons_zero, List.set_cons_succ])
                refine wpAnyH_take (i := 29) (oi := ?oi37) (v := ?v37) ?hi37 (by kernel_rfl) (by kernel_rfl) (by kernel_rfl) (fun _ _ _ h => h) ?hy37 hHeld ?re37
                case hi37 => (simp only [List.getElem?_toArray, List.getElem?_cons_succ, List.getElem?_cons_zero]; rfl)
                case hy37 =>
                  refine Or.inl ⟨by rfl, ?_⟩
                  intro wq hSw
                  go_split_ands
                  go_simp
                  try with_reducible rfl
                (try simp only [Act.put, List.setIfInBounds_toArray, List.set_cons_zero, List.set_cons_succ])
                refine wpAnyH_take (i := 30) (oi := ?oi38) (v := ?v38) ?hi38 (by kernel_rfl) (by kernel_rfl) (by kernel_rfl) (fun _ _ _ h => h) ?hy38 hHeld ?re38
                case hi38 => (simp only [List.getElem?_toArray, List.getElem?_cons_succ, List.getElem?_cons_zero]; rfl)
                case hy38 =>
                  refine Or.inl ⟨by rfl, ?_⟩
                  intro wq hSw
                  go_split_ands
                  go_simp
                  try with_reducible rfl
                (try simp only [Act.put, List.setIfInBounds_toArray, List.set_cons_zero, List.set_cons_succ])
                refine wpAnyH_ready (rs := [31]) (by kernel_rfl) (by simp) ?_
                refine AllReadyH.cons (o := ?o39) ?ho39 (fun K hK => ?st39) AllReadyH.nil
                case ho39 => (simp only [List.getElem?_toArray, List.getElem?_cons_succ, List.getElem?_cons_zero]; rfl)
                case st39 =>
                  go_simp
                  refine hK.out _ _ ⟨(hL3.set2 _).c0, (hL3.set2 _).c9, ((hX3.isF).ups ((Ups.refl b w3).set 2 _) hne).buf⟩ (fun hHeld => ?_)
                  clear hK K
                  (try simp only [Act.put, List.setIfInBounds_toArray, List.set_cons_zero, List.set_cons_succ])
                  refine wpAnyH_done (by kernel_rfl) ?_ _
                  refine NoPanic.normal ?_
                  go_wp2
                  go_roundg (((s.size : Int) - e).toNat + 1)
                  case measure => have := HA.out.2.2.1; omega
                  case rel =>
                    have hk2 := HK.out
                    refine ⟨e, _, n + 1, _, ⟨by omega, e1, by omega, ?_, by have := HA.out.2.2.2.2.1; omega, ?_⟩, ⟨hU3.set 2 _, HC3.ups ((Ups.refl b w3).set 2 _) hblt⟩, hL3.set2 _⟩
                    · rw [← HG2.out, gap_on (by rw [HRq.out]; exact HC.out) (by rw [HRq.out]; exact HE.out)]
                      exact gap_more s _ e e0 e1 (by omega) _ (by omega)
                    · rcases HA.out.2.2.2.2.2 with ⟨h5, h6⟩ | ⟨h5, h6⟩
                      · refine .inr ⟨?_, ?_⟩
                        · rw [h5, ← HRq.out, h6]; rfl
                        · rw [← h6, HRq.out, HC.out]
                          intro h7
                          injection h7 with h7
                          exact HE.out h7
                      · exact .inr ⟨by rw [h5]; rfl, h6⟩

end Go.Proofs.YtjepdlmcombmcaaGreatDoor.Lx
