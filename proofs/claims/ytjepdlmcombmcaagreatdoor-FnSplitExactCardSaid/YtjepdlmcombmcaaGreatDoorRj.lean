/- The reference's tokens of a whole text: what spec.Lex returns. Conditions: the text is such as is told. -/
import Derived.Test.YtjepdlmcombmcaaGreatDoorRi
import Derived.Test.YtjepdlmcombmcaaGreatDoorQf
import Derived.Deep.RegionHeld3
namespace Go.Proofs.YtjepdlmcombmcaaGreatDoor.Lx
open Go.RowKit Go.Proofs.YtjepdlmcombmcaaGreatDoorW.PrintWords

def Tt.ready (y : Tt) (sp : ByteArray) (r : Int) : Tt := { y with sp := sp, tp := r }
theorem IsT.rdy {w : World} {g : Nat} {y : Tt} (h : IsT w g y) (sp : ByteArray) (r : Int) : IsT ((w.setCell ⟨g, 1, none⟩ (.string sp)).setCell ⟨g, 5, none⟩ (.int .i64 r)) g (y.ready sp r) := (h.set1 sp).set5 r
theorem step_G' (s : ByteArray) (last : Kd) (dot : Bool) (p : Int) : step s last dot p = (match gap s ((s.size : Int) - p + 1).toNat p with | none => none | some a => stepAt s last dot p a) := rfl
theorem stepAt_none {s : ByteArray} {last : Kd} {dot : Bool} {p a : Int} (h : (if dot then tokF s a else tok s (isFd last) a) = none) : stepAt s last dot p a = none := by
  unfold stepAt
  rw [h]
theorem stepAt_some {s : ByteArray} {last : Kd} {dot : Bool} {p a : Int} {k : Kd} {e : Int} (h : (if dot then tokF s a else tok s (isFd last) a) = some (k, e)) : stepAt s last dot p a = some ⟨firstC s p, a, k, e⟩ := by
  unfold stepAt
  rw [h]
/-- The outer rounds' invariant. -/
structure LInv (w wr : World) (s : ByteArray) (v : Value) (p : Int) (ys : List Tt) (ts : List Tk) (last : Kd) (dot : Bool) (R : Option (List Tk)) (n : Nat) : Prop where
  below : Below w.heap.size w wr
  row : TRow wr w.heap.size v ys
  tks : TksIs wr ys ts
  lst : LastIs ys last dot
  p0 : 0 ≤ p
  p1 : p ≤ (s.size : Int)
  join : (match toks s n p last dot with | none => none | some m => some (ts ++ m)) = R
  fuel : ((s.size : Int) - p).toNat + 1 ≤ n
  len : ys.length + n ≤ 10000
/-- The inner rounds' invariant. -/
structure IInv (wr wq : World) (s : ByteArray) (p q : Int) (y : Tt) (n : Nat) (c : Option Int) (G : Option Int) (kq : Nat) : Prop where
  below : Below wr.heap.size wr wq
  tok : IsT wq wr.heap.size y
  com : Com9 wq (wr.heap.size + 1) y.com n c
  p0 : 0 ≤ p
  q0 : p ≤ q
  q1 : q ≤ (s.size : Int)
  gap : gap s ((s.size : Int) - q + 1).toNat q = G
  nq : (n : Int) ≤ q
  cc : (c = none ∧ q = p) ∨ (c = some (run isSp s p) ∧ comm s (run isSp s p) ≠ some (run isSp s p))
  kq : ((s.size : Int) - q).toNat < kq
section
variable {w wr wq w3 w5 w6 W0 : World} {s : ByteArray} {v v1 : Value} {p q r e : Int} {ys : List Tt} {ts : List Tk} {last k : Kd} {dot : Bool} {R : Option (List Tk)} {n m kq : Nat} {t : Tk} {y y9 : Tt} {c c' G : Option Int}
theorem LInv.fault (h : LInv w wr s v p ys ts last dot R (n + 1)) (hst : step s last dot p = none) : R = none := by
  rw [← h.join]
  simp only [toks, hst]
theorem LInv.ends (h : LInv w wr s v p ys ts last dot R (n + 1)) (hst : step s last dot p = some t) (hk : t.kd = .eof) : R = some (ts ++ [t]) := by
  rw [← h.join]
  simp only [toks, hst, if_pos hk]
theorem LInv.next (h : LInv w wr s v p ys ts last dot R (n + 1)) (hst : step s last dot p = some t) (hk : t.kd ≠ .eof) (hB : Below w.heap.size w w6) (hT : TRow w6 w.heap.size v1 (ys ++ [y9])) (hts : TksIs w6 (ys ++ [y9]) (ts ++ [t])) (hkd : kd y9.kind.toList = t.kd) :
    LInv w w6 s v1 t.e (ys ++ [y9]) (ts ++ [t]) t.kd (dotOf last t.kd) R n := by
  have hm := step_moves s _ _ _ t h.p0 h.p1 hst
  have m1 := hm.pos
  have m2 := hm.le
  have m3 := hm.top
  have m4 := hm.more hk
  have p0 := h.p0
  have hf := h.fuel
  refine ⟨hB, hT, hts, by rw [← hkd]; exact h.lst.snoc y9, by omega, m3, ?_, by omega, by have := h.len; simp; omega⟩
  rw [← h.join]
  simp only [toks, hst, if_neg hk]
  cases toks s n t.e t.kd (dotOf last t.kd) with
  | none => rfl
  | some l => simp
theorem IInv.more (h : IInv wr wq s p q y n c G kq) (hr : run isSp s q = r) (hc : comm s r = some e) (he : e ≠ r) (e0 : 0 ≤ e) (e1 : e ≤ (s.size : Int)) (hlt : r < e) {g cap : Nat} (hg : wq.grownBy w3 y.com.ownBlock)
    (hC : Com9 w3 (wr.heap.size + 1) (.slice (some ⟨g, 0, none⟩) (n + 1) cap) (n + 1) (some (c.getD r))) :
    IInv wr (w3.setCell ⟨wr.heap.size, 7, none⟩ (.slice (some ⟨g, 0, none⟩) (n + 1) cap)) s p e { y with com := .slice (some ⟨g, 0, none⟩) (n + 1) cap } (n + 1) (some (c.getD r)) G (((s.size : Int) - e).toNat + 1) := by
  have hq0 := h.q0
  have hp0 := h.p0
  have hqr : q ≤ r := by rw [← hr]; exact run_ge _ _ _
  have hown := h.com.own
  have hB3 : Below wr.heap.size wr w3 := h.below.grown hg h.below.size (fun k hk => by have := hown k hk; omega)
  have hY3 : IsT w3 wr.heap.size y := (hg.block _ h.tok.lt (fun he => by have := hown _ he.symm; omega)).trans h.tok
  obtain ⟨k, hk⟩ : ∃ k, ((s.size : Int) - q + 1).toNat = k + 1 := ⟨((s.size : Int) - q).toNat, by have := h.q1; omega⟩
  refine ⟨hB3.setCell (Nat.le_refl _) _, hY3.set7 _, hC.keep (fun k o hk ho => (Below.heap_setCell _ _ _ _ (by show k ≠ wr.heap.size; omega)).trans ho), hp0, by omega, e1, ?_, by have := h.nq; omega, ?_, by omega⟩
  · rw [← h.gap, hk, gap_on (by rw [hr]; exact hc) (by rw [hr]; exact he)]
    exact gap_more s _ e e0 e1 (by omega) _ (by have := h.q1; omega)
  · rcases h.cc with ⟨h5, h6⟩ | ⟨h5, h6⟩
    · refine .inr ⟨?_, ?_⟩
      · rw [h5, ← hr, h6]; rfl
      · rw [← h6, hr, hc]
        intro h7
        injection h7 with h7
        exact he h7
    · exact .inr ⟨by rw [h5]; rfl, h6⟩
theorem LInv.snoc (h : LInv w wr s v p ys ts last dot R (n + 1)) (_hst : step s last dot p = some ⟨c', r, k, e⟩) (hI : IInv wr wq s p q y m c G kq) (hc : c = c') (hU0 : Ups wr.heap.size wq W0) (hU5 : Ups wr.heap.size W0 w5) {K sp raw T : ByteArray} {B : Int} {com : Value} (hk : kd K.toList = k) (hcom : y.com = com)
    (hg : (((w5.setCell ⟨wr.heap.size, 2, none⟩ (.string raw)).setCell ⟨wr.heap.size, 6, none⟩ (.int .i64 e)).alloc (.cells (⟨K, sp, raw, T, B, r, e, com⟩ : Tt).cells 45)).grownBy w6 v.ownBlock) :
    Below w.heap.size w w6 ∧ TksIs w6 (ys ++ [⟨K, sp, raw, T, B, r, e, com⟩]) (ts ++ [⟨c', r, k, e⟩]) := by
  have hU6 := (((hU0.trans hU5).set 2 (.string raw)).set 6 (.int .i64 e)).alloc (.cells (⟨K, sp, raw, T, B, r, e, com⟩ : Tt).cells 45)
  have hB6 := hI.below.trans (hU6.to_below (Nat.le_refl _) hI.below.size)
  have hB := h.below.trans (hB6.mono h.below.size)
  have hkeep : ∀ (g : Nat) (cur : Array Value), (((w5.setCell ⟨wr.heap.size, 2, none⟩ (.string raw)).setCell ⟨wr.heap.size, 6, none⟩ (.int .i64 e)).alloc (.cells (⟨K, sp, raw, T, B, r, e, com⟩ : Tt).cells 45)).heap[g]? = some (.cells cur 49 (0, 0)) → w6.heap[g]? = some (.cells cur 49 (0, 0)) := by
    intro g cur hh
    refine (hg.block g (blk_lt hh) (fun he => ?_)).trans hh
    obtain ⟨hl, cur', hc'⟩ := h.row.at g he.symm
    have := (hB6.block g hl).trans hc'
    rw [this] at hh
    injection hh with hh
    injection hh with h1 h2
    exact absurd h2 (by decide)
  refine ⟨hB.grown hg hB.size (fun k hk => h.row.own k hk), ?_⟩
  refine ((h.tks.keep (fun g cur hh => (hB6.block g (blk_lt hh)).trans hh)).keep hkeep).snoc ⟨hk, rfl, ?_⟩
  have h1 : ComIs wq com c' := by rw [← hc, ← hcom]; exact hI.com.is
  refine (h1.keep (fun g cur hh => hU6.obj hh (fun he => ?_))).keep hkeep
  subst he
  have h2 := hI.tok
  unfold IsT at h2
  rw [h2] at hh
  injection hh with hh
  injection hh with h3 h4
  exact absurd h4 (by decide)
end
/-- What spec.Lex returns. -/
def LexE (R : Option (List Tk)) (w : World) (e : Ending) (w' : World) : Prop := match R with
  | none => ∃ A n C, ∃ q : Int, e = .returned (.tuple #[.slice A n C, .int .i64 q, .bool false]) ∧ Below w.heap.size w w'
  | some l => ∃ v ys B, e = .returned (.tuple #[v, .int .i64 0, .bool true]) ∧ Below w.heap.size w w' ∧ B = w.heap.size ∧ TRow w' B v ys ∧ TksIs w' ys l
set_option maxRecDepth 100000 in
set_option maxHeartbeats 16000000 in
theorem lex_c (w : World) (s : ByteArray) (hT : Txt s) : Calls Tryz.prog 18 #[.string s] w (LexE (toks s (s.size + 2) 0 .other false) w) := by
  have hs5 := hT.size
  have hs6 : (s.size : Int) ≤ 1000000 := by omega
  obtain ⟨R, hR⟩ : ∃ R, toks s (s.size + 2) 0 .other false = R := ⟨_, rfl⟩
  have HR0 := Aside0.mk hR
  rw [hR]
  clear hR
  go_enter Tryz.func18, Tryz.ntmps18
  go_wp2
  go_loopg [5, 6] (s.size + 2) (fun kq v5 v6 wr => ∃ (v : Value) (p : Int) (ys : List Tt) (ts : List Tk) (last : Kd) (dot : Bool), v5 = v ∧ v6 = .int .i64 p ∧ LInv w wr s v p ys ts last dot R kq)
  case atStart => exact ⟨_, 0, [], [], .other, false, rfl, rfl, ⟨Below.refl _ _, TRow.nil _ _, ⟨rfl, fun i y t h => by simp at h⟩, .inl ⟨rfl, rfl, rfl⟩, Int.le_refl _, by omega, by rw [HR0.out]; cases R <;> rfl, by omega, by show 0 + _ ≤ _; omega⟩⟩
  case round =>
    obtain ⟨v, p, ys, ts, last, dot, rfl, rfl, HS⟩ := hrel
    obtain ⟨n0, hn0⟩ : ∃ k, gk = k + 1 := ⟨gk - 1, by have := HS.fuel; omega⟩
    have HS1 : LInv w wr s _ p ys ts last dot R (n0 + 1) := hn0 ▸ HS
    obtain ⟨VA, VC, hv⟩ := HS.row.shape
    obtain rfl := hv
    have hys : ys.length ≤ 100000 := by have := HS.len; omega
    have p0 := HS.p0
    have p1 := HS.p1
    obtain ⟨G, hG⟩ : ∃ G, gap s ((s.size : Int) - p + 1).toNat p = G := ⟨_, rfl⟩
    have HG0 := Aside0.mk hG
    clear hG
    obtain ⟨wI, rfl⟩ : ∃ wI, wI = wr := ⟨_, rfl⟩
    go_wp2
    go_loopg [6] (((s.size : Int) - p).toNat + 1) (fun kq v6 wq => ∃ (q : Int) (y : Tt) (n : Nat) (c : Option Int), v6 = .int .i64 q ∧ IInv wI wq s p q y n c G kq)
    case atStart => exact ⟨p, ⟨⟨#[]⟩, ⟨#[]⟩, ⟨#[]⟩, ⟨#[]⟩, 0, 0, 0, .slice none 0 0⟩, 0, none, rfl, ⟨below_alloc (Below.refl _ _) _, heap_alloc_new wI _, Com9.nil _ _, p0, Int.le_refl _, p1, HG0.out, by omega, .inl ⟨rfl, rfl⟩, by omega⟩⟩
    case round =>
      obtain ⟨q, y, n, c, rfl, HI⟩ := hrel
      have hY := HI.tok
      have hCom0 := HI.com
      obtain ⟨A, C, hycom⟩ := hCom0.shape
      have hCom : Com9 wr (wI.heap.size + 1) (.slice A n C) n c := hycom ▸ hCom0
      have q0 : 0 ≤ q := by have := HI.q0; omega
      have q1 := HI.q1
      obtain ⟨r, hr⟩ : ∃ r, run isSp s q = r := ⟨_, rfl⟩
      have HRr := Aside0.mk hr
      have qr : q ≤ r := by rw [← hr]; exact run_ge _ _ _
      have r1 : r ≤ (s.size : Int) := by rw [← hr]; exact run_le q1
      have r0 : 0 ≤ r := by omega
      have HRB : Aside0 (Ending.returned (.int .i64 (run isBlank s q)) = Ending.returned (.int .i64 r)) := ⟨by rw [hT.blanks q0, hr]⟩
      obtain ⟨k, hk⟩ : ∃ k, ((s.size : Int) - q + 1).toNat = k + 1 := ⟨((s.size : Int) - q).toNat, by omega⟩
      have HGk : Aside0 (Lx.gap s (k + 1) q = G) := ⟨by rw [← hk]; exact HI.gap⟩
      clear hr hk
      have hszq : wI.heap.size + 1 ≤ wr.heap.size := hY.lt
      have hnb : n ≤ 100000 := by have := HI.nq; omega
      cases hcm : comm s r with
      | none =>
        have HCV : Aside0 (Ending.returned (.int .i64 (commV (comm s r))) = Ending.returned (.int .i64 (-1))) := ⟨by rw [hcm]; rfl⟩
        have hres : Aside0 (R = none) := ⟨HS1.fault (by rw [step_G', HG0.out, ← HGk.out, gap_none (by rw [HRr.out]; exact hcm)])⟩
        clear hcm
        go_wp2_with (first | (go_at_call 27; (with_reducible refine (lBlanks_c s q _ q0 q1 hs6).mono ?_); rintro e w' ⟨he, hw'⟩; obtain rfl := hw'.symm; rw [HRB.out] at he; obtain rfl := he) | (go_at_call 28; (with_reducible refine (lComment_c s r _ r0 r1 hs6).mono ?_); rintro e w' ⟨he, hw'⟩; obtain rfl := hw'.symm; rw [HCV.out] at he; obtain rfl := he))
        (try simp only [Exit.inBlock, Exit.then]); refine bodyPost_ret (results_tmp3 rfl _ _ _ rfl rfl rfl) rfl ?_
        rw [hres.out]
        exact ⟨_, _, _, _, rfl, HS1.below.trans (HI.below.mono HS1.below.size)⟩
      | some e =>
        have hce := comm_in s r e r0 r1 hcm
        have e0 : 0 ≤ e := by omega
        have c1 := hY.c1
        have c5 := hY.c5
        have c7 : wr.cell? ⟨wI.heap.size, 7, none⟩ = some (.slice A n C) := by rw [← hycom]; exact hY.c7
        have c7a : ∀ o, (wr.alloc o).cell? ⟨wI.heap.size, 7, none⟩ = some (.slice A n C) := fun o => by rw [← hycom]; exact (hY.alloc o).c7
        have cz := hY.free
        by_cases her : e = r
        · rw [her] at hcm
          have HCV : Aside0 (Ending.returned (.int .i64 (commV (comm s r))) = Ending.returned (.int .i64 r)) := ⟨by rw [hcm]; rfl⟩
          have hde : decide (r < 0) = false := decide_eq_false (by omega)
          have HG : Aside0 (gap s ((s.size : Int) - p + 1).toNat p = some r) := ⟨by rw [HG0.out, ← HGk.out, gap_here (by rw [HRr.out]; exact hcm), HRr.out]⟩
          have HCC : Aside0 (c = firstC s p) := ⟨by
            unfold firstC
            rcases HI.cc with ⟨h5, h6⟩ | ⟨h5, h6⟩
            · rw [← h6, HRr.out, hcm, if_pos rfl, h5]
            · rw [if_neg h6, h5]⟩
          clear hcm hce her e0
          have hYY := hY.rdy (s.extract q.toNat r.toNat) r
          have hU0 := ((Ups.refl wI.heap.size wr).set 1 (.string (s.extract q.toNat r.toNat))).set 5 (.int .i64 r)
          obtain ⟨TR, hTR⟩ : ∃ TR, (if dot then tokF s r else tok s (isFd last) r) = TR := ⟨_, rfl⟩
          have HTR := Aside0.mk hTR
          clear hTR
          rcases HS1.lst with ⟨hy0, hv1, hv2⟩ | ⟨y1, hy0, hv1, hv2⟩ | ⟨zs, y2, y1, hy0, hv1, hv2⟩
          · subst hy0
            have HD : Aside0 (dot = false) := ⟨hv2⟩
            have HA : Aside0 (isFd last = isFd (kd [])) := ⟨by rw [hv1]; rfl⟩
            have HPA : Aside0 (false = true → isFd (kd []) = false) := ⟨fun h => by cases h⟩
            clear hv1 hv2
            have HTK : Aside0 ((if (false) then tokF s r else tok s (isFd (kd [])) r) = TR) := ⟨by rw [← HTR.out, HD.out, HA.out]⟩
            cases TR with
            | none =>
              have hres : Aside0 (R = none) := ⟨HS1.fault (by rw [step_G', HG.out]; exact stepAt_none HTR.out)⟩
              go_wp2_with (first
                  | (go_at_call 27; (with_reducible refine (lBlanks_c s q _ q0 q1 hs6).mono ?_); rintro e w' ⟨he, hw'⟩; obtain rfl := hw'.symm; rw [HRB.out] at he; obtain rfl := he)
                  | (go_at_call 28; (with_reducible refine (lComment_c s r _ r0 r1 hs6).mono ?_); rintro e w' ⟨he, hw'⟩; obtain rfl := hw'.symm; rw [HCV.out] at he; obtain rfl := he)
                  | (go_at_call 29; (with_reducible refine (lDotted_c _ _).mono ?_); rintro e w' ⟨rfl, hw'⟩; obtain rfl := hw'.symm)
                  | (go_at_call 30; (with_reducible refine (lToken_c s r (false) (isFd (kd [])) _ wI.heap.size (y.ready (s.extract q.toNat r.toNat) r) hYY hT r0 r1 HPA.out).mono ?_); rintro e w5 hn; rw [HTK.out] at hn; obtain ⟨⟨q5, rfl⟩, hU5, K5, T5, B5, hY5⟩ := hn))
              (try simp only [Exit.inBlock, Exit.then]); refine bodyPost_ret (results_tmp3 rfl _ _ _ rfl rfl rfl) rfl ?_
              rw [hres.out]
              exact ⟨_, _, _, _, rfl, HS1.below.trans ((HI.below.trans ((hU0.trans hU5).to_below (Nat.le_refl _) HI.below.size)).mono HS1.below.size)⟩
            | some ke =>
              obtain ⟨k5, e5⟩ := ke
              have hst : step s last dot p = some ⟨firstC s p, r, k5, e5⟩ := by rw [step_G', HG.out]; exact stepAt_some HTR.out
              have hm := step_moves s last dot p _ HS1.p0 HS1.p1 hst
              have m1 : r ≤ e5 := hm.le
              have m2 : e5 ≤ (s.size : Int) := hm.top
              have m3 : 0 ≤ e5 := by omega
              have HST := Aside0.mk hst
              clear hst hm
              by_cases hke : k5 = .eof
              · have HKE := Aside0.mk hke
                go_wp2_with (first
                    | (go_at_call 27; (with_reducible refine (lBlanks_c s q _ q0 q1 hs6).mono ?_); rintro e w' ⟨he, hw'⟩; obtain rfl := hw'.symm; rw [HRB.out] at he; obtain rfl := he)
                    | (go_at_call 28; (with_reducible refine (lComment_c s r _ r0 r1 hs6).mono ?_); rintro e w' ⟨he, hw'⟩; obtain rfl := hw'.symm; rw [HCV.out] at he; obtain rfl := he)
                    | (go_at_call 29; (with_reducible refine (lDotted_c _ _).mono ?_); rintro e w' ⟨rfl, hw'⟩; obtain rfl := hw'.symm)
                    | (go_at_call 30; (with_reducible refine (lToken_c s r (false) (isFd (kd [])) _ wI.heap.size (y.ready (s.extract q.toNat r.toNat) r) hYY hT r0 r1 HPA.out).mono ?_); rintro e w5 hn; rw [HTK.out] at hn; obtain ⟨rfl, hU5, K5, T5, B5, hk5, hY5⟩ := hn; have hkk : (K5.toList == [60, 101, 111, 102, 62]) = true := (by have h5 := kd_eof K5.toList; unfold kEof at h5; rw [h5, hk5]; exact decide_eq_true HKE.out); have HK5 := Aside0.mk hk5; clear hk5; have d0 := hY5.c0; have d1 : w5.cell? ⟨wI.heap.size, 1, none⟩ = some (.string (s.extract q.toNat r.toNat)) := hY5.c1; have d2 := hY5.c2; have d3 := hY5.c3; have d4 := hY5.c4; have d5 : w5.cell? ⟨wI.heap.size, 5, none⟩ = some (.int .i64 r) := hY5.c5; have d6 := hY5.c6; have d7 : w5.cell? ⟨wI.heap.size, 7, none⟩ = some (.slice A n C) := (by rw [← hycom]; exact hY5.c7); have dz := hY5.free; have hX5 : IsT ((w5.setCell ⟨wI.heap.size, 2, none⟩ (.string (s.extract r.toNat e5.toNat))).setCell ⟨wI.heap.size, 6, none⟩ (.int .i64 e5)) wI.heap.size ⟨K5, s.extract q.toNat r.toNat, s.extract r.toNat e5.toNat, T5, B5, r, e5, .slice A n C⟩ := (by have h5 := (hY5.set2 (s.extract r.toNat e5.toNat)).set6 e5; rw [← hycom]; exact h5); have hU6 := ((hU0.trans hU5).set 2 (.string (s.extract r.toNat e5.toNat))).set 6 (.int .i64 e5); have hB6 := HI.below.trans (hU6.to_below (Nat.le_refl _) HI.below.size); have hTR6 := HS1.row.below hB6; have hsz6 := Nat.le_trans HS1.below.size hB6.size)
                    | (at_builtin; refine append_tok w.heap.size rfl (.tmp 99) (.tmp 101) rfl _ _ ⟨K5, s.extract q.toNat r.toNat, s.extract r.toNat e5.toNat, T5, B5, r, e5, .slice A n C⟩ w5.heap.size (by simp [World.setCell]) rfl rfl ⟨_, _, _, rfl⟩ hTR6 hsz6 hys ?_; intro v1 w6 hT6 hg6; have hX6 : IsT w6 wI.heap.size _ := ((hg6.block wI.heap.size (hX5.alloc _).lt (fun he => by have := (HS1.row.at _ he.symm).1; omega)).trans (hX5.alloc _)); have f0 := hX6.c0))
                have hfin := HS1.snoc HST.out HI HCC.out hU0 hU5 HK5.out hycom hg6
                (try simp only [Exit.inBlock, Exit.then]); refine bodyPost_ret (results_tmp3 rfl _ _ _ rfl rfl rfl) rfl ?_
                rw [HS1.ends HST.out HKE.out]
                exact ⟨_, _, w.heap.size, rfl, hfin.1, rfl, hT6, hfin.2⟩
              · have HKE := Aside0.mk hke
                go_wp2_with (first
                    | (go_at_call 27; (with_reducible refine (lBlanks_c s q _ q0 q1 hs6).mono ?_); rintro e w' ⟨he, hw'⟩; obtain rfl := hw'.symm; rw [HRB.out] at he; obtain rfl := he)
                    | (go_at_call 28; (with_reducible refine (lComment_c s r _ r0 r1 hs6).mono ?_); rintro e w' ⟨he, hw'⟩; obtain rfl := hw'.symm; rw [HCV.out] at he; obtain rfl := he)
                    | (go_at_call 29; (with_reducible refine (lDotted_c _ _).mono ?_); rintro e w' ⟨rfl, hw'⟩; obtain rfl := hw'.symm)
                    | (go_at_call 30; (with_reducible refine (lToken_c s r (false) (isFd (kd [])) _ wI.heap.size (y.ready (s.extract q.toNat r.toNat) r) hYY hT r0 r1 HPA.out).mono ?_); rintro e w5 hn; rw [HTK.out] at hn; obtain ⟨rfl, hU5, K5, T5, B5, hk5, hY5⟩ := hn; have hkk : (K5.toList == [60, 101, 111, 102, 62]) = false := (by have h5 := kd_eof K5.toList; unfold kEof at h5; rw [h5, hk5]; exact decide_eq_false HKE.out); have HK5 := Aside0.mk hk5; clear hk5; have d0 := hY5.c0; have d1 : w5.cell? ⟨wI.heap.size, 1, none⟩ = some (.string (s.extract q.toNat r.toNat)) := hY5.c1; have d2 := hY5.c2; have d3 := hY5.c3; have d4 := hY5.c4; have d5 : w5.cell? ⟨wI.heap.size, 5, none⟩ = some (.int .i64 r) := hY5.c5; have d6 := hY5.c6; have d7 : w5.cell? ⟨wI.heap.size, 7, none⟩ = some (.slice A n C) := (by rw [← hycom]; exact hY5.c7); have dz := hY5.free; have hX5 : IsT ((w5.setCell ⟨wI.heap.size, 2, none⟩ (.string (s.extract r.toNat e5.toNat))).setCell ⟨wI.heap.size, 6, none⟩ (.int .i64 e5)) wI.heap.size ⟨K5, s.extract q.toNat r.toNat, s.extract r.toNat e5.toNat, T5, B5, r, e5, .slice A n C⟩ := (by have h5 := (hY5.set2 (s.extract r.toNat e5.toNat)).set6 e5; rw [← hycom]; exact h5); have hU6 := ((hU0.trans hU5).set 2 (.string (s.extract r.toNat e5.toNat))).set 6 (.int .i64 e5); have hB6 := HI.below.trans (hU6.to_below (Nat.le_refl _) HI.below.size); have hTR6 := HS1.row.below hB6; have hsz6 := Nat.le_trans HS1.below.size hB6.size)
                    | (at_builtin; refine append_tok w.heap.size rfl (.tmp 99) (.tmp 101) rfl _ _ ⟨K5, s.extract q.toNat r.toNat, s.extract r.toNat e5.toNat, T5, B5, r, e5, .slice A n C⟩ w5.heap.size (by simp [World.setCell]) rfl rfl ⟨_, _, _, rfl⟩ hTR6 hsz6 hys ?_; intro v1 w6 hT6 hg6; have hX6 : IsT w6 wI.heap.size _ := ((hg6.block wI.heap.size (hX5.alloc _).lt (fun he => by have := (HS1.row.at _ he.symm).1; omega)).trans (hX5.alloc _)); have f0 := hX6.c0))
                have hfin := HS1.snoc HST.out HI HCC.out hU0 hU5 HK5.out hycom hg6
                go_roundg n0
                case measure => omega
                case rel => exact ⟨_, e5, _, _, _, _, rfl, rfl, HS1.next HST.out HKE.out hfin.1 hT6 hfin.2 HK5.out⟩
          · subst hy0
            obtain ⟨G1, C1, hv, hcl⟩ := (HS1.row.below HI.below).get (i := 0) (y := y1) rfl
            obtain rfl : VA = some ⟨G1, 0, none⟩ := by injection hv
            have k0 : wr.cell? ⟨G1, 0, none⟩ = some (.string y1.kind) := hcl 0 (by omega)
            clear hcl hv
            cases h46 : (y1.kind.toList == [46]) with
            | true =>
              have HD : Aside0 (dot = false) := ⟨hv2⟩
              have HA : Aside0 (isFd last = isFd (kd y1.kind.toList)) := ⟨by rw [hv1]⟩
              have HPA : Aside0 (false = true → isFd (kd y1.kind.toList) = false) := ⟨fun h => by cases h⟩
              clear hv1 hv2
              have HTK : Aside0 ((if (false) then tokF s r else tok s (isFd (kd y1.kind.toList)) r) = TR) := ⟨by rw [← HTR.out, HD.out, HA.out]⟩
              cases TR with
              | none =>
                have hres : Aside0 (R = none) := ⟨HS1.fault (by rw [step_G', HG.out]; exact stepAt_none HTR.out)⟩
                go_wp2_with (first
                    | (go_at_call 27; (with_reducible refine (lBlanks_c s q _ q0 q1 hs6).mono ?_); rintro e w' ⟨he, hw'⟩; obtain rfl := hw'.symm; rw [HRB.out] at he; obtain rfl := he)
                    | (go_at_call 28; (with_reducible refine (lComment_c s r _ r0 r1 hs6).mono ?_); rintro e w' ⟨he, hw'⟩; obtain rfl := hw'.symm; rw [HCV.out] at he; obtain rfl := he)
                    | (go_at_call 29; (with_reducible refine (lDotted_c _ _).mono ?_); rintro e w' ⟨rfl, hw'⟩; obtain rfl := hw'.symm)
                    | (go_at_call 30; (with_reducible refine (lToken_c s r (false) (isFd (kd y1.kind.toList)) _ wI.heap.size (y.ready (s.extract q.toNat r.toNat) r) hYY hT r0 r1 HPA.out).mono ?_); rintro e w5 hn; rw [HTK.out] at hn; obtain ⟨⟨q5, rfl⟩, hU5, K5, T5, B5, hY5⟩ := hn))
                (try simp only [Exit.inBlock, Exit.then]); refine bodyPost_ret (results_tmp3 rfl _ _ _ rfl rfl rfl) rfl ?_
                rw [hres.out]
                exact ⟨_, _, _, _, rfl, HS1.below.trans ((HI.below.trans ((hU0.trans hU5).to_below (Nat.le_refl _) HI.below.size)).mono HS1.below.size)⟩
              | some ke =>
                obtain ⟨k5, e5⟩ := ke
                have hst : step s last dot p = some ⟨firstC s p, r, k5, e5⟩ := by rw [step_G', HG.out]; exact stepAt_some HTR.out
                have hm := step_moves s last dot p _ HS1.p0 HS1.p1 hst
                have m1 : r ≤ e5 := hm.le
                have m2 : e5 ≤ (s.size : Int) := hm.top
                have m3 : 0 ≤ e5 := by omega
                have HST := Aside0.mk hst
                clear hst hm
                by_cases hke : k5 = .eof
                · have HKE := Aside0.mk hke
                  go_wp2_with (first
                      | (go_at_call 27; (with_reducible refine (lBlanks_c s q _ q0 q1 hs6).mono ?_); rintro e w' ⟨he, hw'⟩; obtain rfl := hw'.symm; rw [HRB.out] at he; obtain rfl := he)
                      | (go_at_call 28; (with_reducible refine (lComment_c s r _ r0 r1 hs6).mono ?_); rintro e w' ⟨he, hw'⟩; obtain rfl := hw'.symm; rw [HCV.out] at he; obtain rfl := he)
                      | (go_at_call 29; (with_reducible refine (lDotted_c _ _).mono ?_); rintro e w' ⟨rfl, hw'⟩; obtain rfl := hw'.symm)
                      | (go_at_call 30; (with_reducible refine (lToken_c s r (false) (isFd (kd y1.kind.toList)) _ wI.heap.size (y.ready (s.extract q.toNat r.toNat) r) hYY hT r0 r1 HPA.out).mono ?_); rintro e w5 hn; rw [HTK.out] at hn; obtain ⟨rfl, hU5, K5, T5, B5, hk5, hY5⟩ := hn; have hkk : (K5.toList == [60, 101, 111, 102, 62]) = true := (by have h5 := kd_eof K5.toList; unfold kEof at h5; rw [h5, hk5]; exact decide_eq_true HKE.out); have HK5 := Aside0.mk hk5; clear hk5; have d0 := hY5.c0; have d1 : w5.cell? ⟨wI.heap.size, 1, none⟩ = some (.string (s.extract q.toNat r.toNat)) := hY5.c1; have d2 := hY5.c2; have d3 := hY5.c3; have d4 := hY5.c4; have d5 : w5.cell? ⟨wI.heap.size, 5, none⟩ = some (.int .i64 r) := hY5.c5; have d6 := hY5.c6; have d7 : w5.cell? ⟨wI.heap.size, 7, none⟩ = some (.slice A n C) := (by rw [← hycom]; exact hY5.c7); have dz := hY5.free; have hX5 : IsT ((w5.setCell ⟨wI.heap.size, 2, none⟩ (.string (s.extract r.toNat e5.toNat))).setCell ⟨wI.heap.size, 6, none⟩ (.int .i64 e5)) wI.heap.size ⟨K5, s.extract q.toNat r.toNat, s.extract r.toNat e5.toNat, T5, B5, r, e5, .slice A n C⟩ := (by have h5 := (hY5.set2 (s.extract r.toNat e5.toNat)).set6 e5; rw [← hycom]; exact h5); have hU6 := ((hU0.trans hU5).set 2 (.string (s.extract r.toNat e5.toNat))).set 6 (.int .i64 e5); have hB6 := HI.below.trans (hU6.to_below (Nat.le_refl _) HI.below.size); have hTR6 := HS1.row.below hB6; have hsz6 := Nat.le_trans HS1.below.size hB6.size)
                      | (at_builtin; refine append_tok w.heap.size rfl (.tmp 99) (.tmp 101) rfl _ _ ⟨K5, s.extract q.toNat r.toNat, s.extract r.toNat e5.toNat, T5, B5, r, e5, .slice A n C⟩ w5.heap.size (by simp [World.setCell]) rfl rfl ⟨_, _, _, rfl⟩ hTR6 hsz6 hys ?_; intro v1 w6 hT6 hg6; have hX6 : IsT w6 wI.heap.size _ := ((hg6.block wI.heap.size (hX5.alloc _).lt (fun he => by have := (HS1.row.at _ he.symm).1; omega)).trans (hX5.alloc _)); have f0 := hX6.c0))
                  have hfin := HS1.snoc HST.out HI HCC.out hU0 hU5 HK5.out hycom hg6
                  (try simp only [Exit.inBlock, Exit.then]); refine bodyPost_ret (results_tmp3 rfl _ _ _ rfl rfl rfl) rfl ?_
                  rw [HS1.ends HST.out HKE.out]
                  exact ⟨_, _, w.heap.size, rfl, hfin.1, rfl, hT6, hfin.2⟩
                · have HKE := Aside0.mk hke
                  go_wp2_with (first
                      | (go_at_call 27; (with_reducible refine (lBlanks_c s q _ q0 q1 hs6).mono ?_); rintro e w' ⟨he, hw'⟩; obtain rfl := hw'.symm; rw [HRB.out] at he; obtain rfl := he)
                      | (go_at_call 28; (with_reducible refine (lComment_c s r _ r0 r1 hs6).mono ?_); rintro e w' ⟨he, hw'⟩; obtain rfl := hw'.symm; rw [HCV.out] at he; obtain rfl := he)
                      | (go_at_call 29; (with_reducible refine (lDotted_c _ _).mono ?_); rintro e w' ⟨rfl, hw'⟩; obtain rfl := hw'.symm)
                      | (go_at_call 30; (with_reducible refine (lToken_c s r (false) (isFd (kd y1.kind.toList)) _ wI.heap.size (y.ready (s.extract q.toNat r.toNat) r) hYY hT r0 r1 HPA.out).mono ?_); rintro e w5 hn; rw [HTK.out] at hn; obtain ⟨rfl, hU5, K5, T5, B5, hk5, hY5⟩ := hn; have hkk : (K5.toList == [60, 101, 111, 102, 62]) = false := (by have h5 := kd_eof K5.toList; unfold kEof at h5; rw [h5, hk5]; exact decide_eq_false HKE.out); have HK5 := Aside0.mk hk5; clear hk5; have d0 := hY5.c0; have d1 : w5.cell? ⟨wI.heap.size, 1, none⟩ = some (.string (s.extract q.toNat r.toNat)) := hY5.c1; have d2 := hY5.c2; have d3 := hY5.c3; have d4 := hY5.c4; have d5 : w5.cell? ⟨wI.heap.size, 5, none⟩ = some (.int .i64 r) := hY5.c5; have d6 := hY5.c6; have d7 : w5.cell? ⟨wI.heap.size, 7, none⟩ = some (.slice A n C) := (by rw [← hycom]; exact hY5.c7); have dz := hY5.free; have hX5 : IsT ((w5.setCell ⟨wI.heap.size, 2, none⟩ (.string (s.extract r.toNat e5.toNat))).setCell ⟨wI.heap.size, 6, none⟩ (.int .i64 e5)) wI.heap.size ⟨K5, s.extract q.toNat r.toNat, s.extract r.toNat e5.toNat, T5, B5, r, e5, .slice A n C⟩ := (by have h5 := (hY5.set2 (s.extract r.toNat e5.toNat)).set6 e5; rw [← hycom]; exact h5); have hU6 := ((hU0.trans hU5).set 2 (.string (s.extract r.toNat e5.toNat))).set 6 (.int .i64 e5); have hB6 := HI.below.trans (hU6.to_below (Nat.le_refl _) HI.below.size); have hTR6 := HS1.row.below hB6; have hsz6 := Nat.le_trans HS1.below.size hB6.size)
                      | (at_builtin; refine append_tok w.heap.size rfl (.tmp 99) (.tmp 101) rfl _ _ ⟨K5, s.extract q.toNat r.toNat, s.extract r.toNat e5.toNat, T5, B5, r, e5, .slice A n C⟩ w5.heap.size (by simp [World.setCell]) rfl rfl ⟨_, _, _, rfl⟩ hTR6 hsz6 hys ?_; intro v1 w6 hT6 hg6; have hX6 : IsT w6 wI.heap.size _ := ((hg6.block wI.heap.size (hX5.alloc _).lt (fun he => by have := (HS1.row.at _ he.symm).1; omega)).trans (hX5.alloc _)); have f0 := hX6.c0))
                  have hfin := HS1.snoc HST.out HI HCC.out hU0 hU5 HK5.out hycom hg6
                  go_roundg n0
                  case measure => omega
                  case rel => exact ⟨_, e5, _, _, _, _, rfl, rfl, HS1.next HST.out HKE.out hfin.1 hT6 hfin.2 HK5.out⟩
            | false =>
              have HD : Aside0 (dot = false) := ⟨hv2⟩
              have HA : Aside0 (isFd last = isFd (kd y1.kind.toList)) := ⟨by rw [hv1]⟩
              have HPA : Aside0 (false = true → isFd (kd y1.kind.toList) = false) := ⟨fun h => by cases h⟩
              clear hv1 hv2
              have HTK : Aside0 ((if (false) then tokF s r else tok s (isFd (kd y1.kind.toList)) r) = TR) := ⟨by rw [← HTR.out, HD.out, HA.out]⟩
              cases TR with
              | none =>
                have hres : Aside0 (R = none) := ⟨HS1.fault (by rw [step_G', HG.out]; exact stepAt_none HTR.out)⟩
                go_wp2_with (first
                    | (go_at_call 27; (with_reducible refine (lBlanks_c s q _ q0 q1 hs6).mono ?_); rintro e w' ⟨he, hw'⟩; obtain rfl := hw'.symm; rw [HRB.out] at he; obtain rfl := he)
                    | (go_at_call 28; (with_reducible refine (lComment_c s r _ r0 r1 hs6).mono ?_); rintro e w' ⟨he, hw'⟩; obtain rfl := hw'.symm; rw [HCV.out] at he; obtain rfl := he)
                    | (go_at_call 29; (with_reducible refine (lDotted_c _ _).mono ?_); rintro e w' ⟨rfl, hw'⟩; obtain rfl := hw'.symm)
                    | (go_at_call 30; (with_reducible refine (lToken_c s r (false) (isFd (kd y1.kind.toList)) _ wI.heap.size (y.ready (s.extract q.toNat r.toNat) r) hYY hT r0 r1 HPA.out).mono ?_); rintro e w5 hn; rw [HTK.out] at hn; obtain ⟨⟨q5, rfl⟩, hU5, K5, T5, B5, hY5⟩ := hn))
                (try simp only [Exit.inBlock, Exit.then]); refine bodyPost_ret (results_tmp3 rfl _ _ _ rfl rfl rfl) rfl ?_
                rw [hres.out]
                exact ⟨_, _, _, _, rfl, HS1.below.trans ((HI.below.trans ((hU0.trans hU5).to_below (Nat.le_refl _) HI.below.size)).mono HS1.below.size)⟩
              | some ke =>
                obtain ⟨k5, e5⟩ := ke
                have hst : step s last dot p = some ⟨firstC s p, r, k5, e5⟩ := by rw [step_G', HG.out]; exact stepAt_some HTR.out
                have hm := step_moves s last dot p _ HS1.p0 HS1.p1 hst
                have m1 : r ≤ e5 := hm.le
                have m2 : e5 ≤ (s.size : Int) := hm.top
                have m3 : 0 ≤ e5 := by omega
                have HST := Aside0.mk hst
                clear hst hm
                by_cases hke : k5 = .eof
                · have HKE := Aside0.mk hke
                  go_wp2_with (first
                      | (go_at_call 27; (with_reducible refine (lBlanks_c s q _ q0 q1 hs6).mono ?_); rintro e w' ⟨he, hw'⟩; obtain rfl := hw'.symm; rw [HRB.out] at he; obtain rfl := he)
                      | (go_at_call 28; (with_reducible refine (lComment_c s r _ r0 r1 hs6).mono ?_); rintro e w' ⟨he, hw'⟩; obtain rfl := hw'.symm; rw [HCV.out] at he; obtain rfl := he)
                      | (go_at_call 29; (with_reducible refine (lDotted_c _ _).mono ?_); rintro e w' ⟨rfl, hw'⟩; obtain rfl := hw'.symm)
                      | (go_at_call 30; (with_reducible refine (lToken_c s r (false) (isFd (kd y1.kind.toList)) _ wI.heap.size (y.ready (s.extract q.toNat r.toNat) r) hYY hT r0 r1 HPA.out).mono ?_); rintro e w5 hn; rw [HTK.out] at hn; obtain ⟨rfl, hU5, K5, T5, B5, hk5, hY5⟩ := hn; have hkk : (K5.toList == [60, 101, 111, 102, 62]) = true := (by have h5 := kd_eof K5.toList; unfold kEof at h5; rw [h5, hk5]; exact decide_eq_true HKE.out); have HK5 := Aside0.mk hk5; clear hk5; have d0 := hY5.c0; have d1 : w5.cell? ⟨wI.heap.size, 1, none⟩ = some (.string (s.extract q.toNat r.toNat)) := hY5.c1; have d2 := hY5.c2; have d3 := hY5.c3; have d4 := hY5.c4; have d5 : w5.cell? ⟨wI.heap.size, 5, none⟩ = some (.int .i64 r) := hY5.c5; have d6 := hY5.c6; have d7 : w5.cell? ⟨wI.heap.size, 7, none⟩ = some (.slice A n C) := (by rw [← hycom]; exact hY5.c7); have dz := hY5.free; have hX5 : IsT ((w5.setCell ⟨wI.heap.size, 2, none⟩ (.string (s.extract r.toNat e5.toNat))).setCell ⟨wI.heap.size, 6, none⟩ (.int .i64 e5)) wI.heap.size ⟨K5, s.extract q.toNat r.toNat, s.extract r.toNat e5.toNat, T5, B5, r, e5, .slice A n C⟩ := (by have h5 := (hY5.set2 (s.extract r.toNat e5.toNat)).set6 e5; rw [← hycom]; exact h5); have hU6 := ((hU0.trans hU5).set 2 (.string (s.extract r.toNat e5.toNat))).set 6 (.int .i64 e5); have hB6 := HI.below.trans (hU6.to_below (Nat.le_refl _) HI.below.size); have hTR6 := HS1.row.below hB6; have hsz6 := Nat.le_trans HS1.below.size hB6.size)
                      | (at_builtin; refine append_tok w.heap.size rfl (.tmp 99) (.tmp 101) rfl _ _ ⟨K5, s.extract q.toNat r.toNat, s.extract r.toNat e5.toNat, T5, B5, r, e5, .slice A n C⟩ w5.heap.size (by simp [World.setCell]) rfl rfl ⟨_, _, _, rfl⟩ hTR6 hsz6 hys ?_; intro v1 w6 hT6 hg6; have hX6 : IsT w6 wI.heap.size _ := ((hg6.block wI.heap.size (hX5.alloc _).lt (fun he => by have := (HS1.row.at _ he.symm).1; omega)).trans (hX5.alloc _)); have f0 := hX6.c0))
                  have hfin := HS1.snoc HST.out HI HCC.out hU0 hU5 HK5.out hycom hg6
                  (try simp only [Exit.inBlock, Exit.then]); refine bodyPost_ret (results_tmp3 rfl _ _ _ rfl rfl rfl) rfl ?_
                  rw [HS1.ends HST.out HKE.out]
                  exact ⟨_, _, w.heap.size, rfl, hfin.1, rfl, hT6, hfin.2⟩
                · have HKE := Aside0.mk hke
                  go_wp2_with (first
                      | (go_at_call 27; (with_reducible refine (lBlanks_c s q _ q0 q1 hs6).mono ?_); rintro e w' ⟨he, hw'⟩; obtain rfl := hw'.symm; rw [HRB.out] at he; obtain rfl := he)
                      | (go_at_call 28; (with_reducible refine (lComment_c s r _ r0 r1 hs6).mono ?_); rintro e w' ⟨he, hw'⟩; obtain rfl := hw'.symm; rw [HCV.out] at he; obtain rfl := he)
                      | (go_at_call 29; (with_reducible refine (lDotted_c _ _).mono ?_); rintro e w' ⟨rfl, hw'⟩; obtain rfl := hw'.symm)
                      | (go_at_call 30; (with_reducible refine (lToken_c s r (false) (isFd (kd y1.kind.toList)) _ wI.heap.size (y.ready (s.extract q.toNat r.toNat) r) hYY hT r0 r1 HPA.out).mono ?_); rintro e w5 hn; rw [HTK.out] at hn; obtain ⟨rfl, hU5, K5, T5, B5, hk5, hY5⟩ := hn; have hkk : (K5.toList == [60, 101, 111, 102, 62]) = false := (by have h5 := kd_eof K5.toList; unfold kEof at h5; rw [h5, hk5]; exact decide_eq_false HKE.out); have HK5 := Aside0.mk hk5; clear hk5; have d0 := hY5.c0; have d1 : w5.cell? ⟨wI.heap.size, 1, none⟩ = some (.string (s.extract q.toNat r.toNat)) := hY5.c1; have d2 := hY5.c2; have d3 := hY5.c3; have d4 := hY5.c4; have d5 : w5.cell? ⟨wI.heap.size, 5, none⟩ = some (.int .i64 r) := hY5.c5; have d6 := hY5.c6; have d7 : w5.cell? ⟨wI.heap.size, 7, none⟩ = some (.slice A n C) := (by rw [← hycom]; exact hY5.c7); have dz := hY5.free; have hX5 : IsT ((w5.setCell ⟨wI.heap.size, 2, none⟩ (.string (s.extract r.toNat e5.toNat))).setCell ⟨wI.heap.size, 6, none⟩ (.int .i64 e5)) wI.heap.size ⟨K5, s.extract q.toNat r.toNat, s.extract r.toNat e5.toNat, T5, B5, r, e5, .slice A n C⟩ := (by have h5 := (hY5.set2 (s.extract r.toNat e5.toNat)).set6 e5; rw [← hycom]; exact h5); have hU6 := ((hU0.trans hU5).set 2 (.string (s.extract r.toNat e5.toNat))).set 6 (.int .i64 e5); have hB6 := HI.below.trans (hU6.to_below (Nat.le_refl _) HI.below.size); have hTR6 := HS1.row.below hB6; have hsz6 := Nat.le_trans HS1.below.size hB6.size)
                      | (at_builtin; refine append_tok w.heap.size rfl (.tmp 99) (.tmp 101) rfl _ _ ⟨K5, s.extract q.toNat r.toNat, s.extract r.toNat e5.toNat, T5, B5, r, e5, .slice A n C⟩ w5.heap.size (by simp [World.setCell]) rfl rfl ⟨_, _, _, rfl⟩ hTR6 hsz6 hys ?_; intro v1 w6 hT6 hg6; have hX6 : IsT w6 wI.heap.size _ := ((hg6.block wI.heap.size (hX5.alloc _).lt (fun he => by have := (HS1.row.at _ he.symm).1; omega)).trans (hX5.alloc _)); have f0 := hX6.c0))
                  have hfin := HS1.snoc HST.out HI HCC.out hU0 hU5 HK5.out hycom hg6
                  go_roundg n0
                  case measure => omega
                  case rel => exact ⟨_, e5, _, _, _, _, rfl, rfl, HS1.next HST.out HKE.out hfin.1 hT6 hfin.2 HK5.out⟩
          · obtain ⟨mz, hmz⟩ : ∃ mz, zs.length = mz := ⟨_, rfl⟩
            have hl0 : ys.length = mz + 2 := by rw [hy0, ← hmz]; simp
            obtain ⟨G1, C1, hv, hcl⟩ := (HS1.row.below HI.below).get (i := mz + 1) (y := y1) (by rw [hy0, ← hmz]; simp)
            obtain rfl : VA = some ⟨G1, 0, none⟩ := by injection hv
            obtain ⟨G2, C2, hv2', hcl2⟩ := (HS1.row.below HI.below).get (i := mz) (y := y2) (by rw [hy0, ← hmz]; simp)
            obtain rfl : G1 = G2 := by injection hv2' with h5; injection h5 with h5; injection h5
            have k0 : wr.cell? ⟨G1, (mz + 1) * 8, none⟩ = some (.string y1.kind) := hcl 0 (by omega)
            have k1 : wr.cell? ⟨G1, mz * 8, none⟩ = some (.string y2.kind) := hcl2 0 (by omega)
            clear hcl hv hcl2 hv2'
            have HL0 := Aside0.mk hl0
            rw [hl0] at HS1
            rw [hl0]
            have hm3 : mz ≤ 100000 := by omega
            have wm1 := iwrap ((mz : Int) + 2 - 1) (by omega) (by omega)
            have wmz := iwrap ((mz : Int) + 2 - 2) (by omega) (by omega)
            have wm3 := iwrap ((mz : Int) + 1) (by omega) (by omega)
            have wm4 := iwrap (mz : Int) (by omega) (by omega)
            have em1 : (mz : Int) + 2 - 1 = (mz : Int) + 1 := by omega
            have gm0 : (0 : Int) < (mz : Int) + 2 := by omega
            have gm1 : (1 : Int) < (mz : Int) + 2 := by omega
            clear hl0 hy0 hmz
            have hkd := kd_dot y1.kind.toList
            cases h46 : (y1.kind.toList == [46]) with
            | true =>
              have hk1 : kd y1.kind.toList = .dot := of_decide_eq_true (by rw [← hkd, h46])
              have HD : Aside0 (dot = isFd (kd y2.kind.toList)) := ⟨by rw [hv2, hk1]; unfold dotOf; rw [decide_eq_true rfl, Bool.true_and]⟩
              have HA : Aside0 (isFd last = isFd (kd y1.kind.toList)) := ⟨by rw [hv1]⟩
              have HPA : Aside0 (isFd (kd y2.kind.toList) = true → isFd (kd y1.kind.toList) = false) := ⟨fun _ => by rw [hk1]; rfl⟩
              clear hv1 hv2 hkd hk1
              have HTK : Aside0 ((if (isFd (kd y2.kind.toList)) then tokF s r else tok s (isFd (kd y1.kind.toList)) r) = TR) := ⟨by rw [← HTR.out, HD.out, HA.out]⟩
              cases TR with
              | none =>
                have hres : Aside0 (R = none) := ⟨HS1.fault (by rw [step_G', HG.out]; exact stepAt_none HTR.out)⟩
                go_wp2_with (first
                    | (go_at_call 27; (with_reducible refine (lBlanks_c s q _ q0 q1 hs6).mono ?_); rintro e w' ⟨he, hw'⟩; obtain rfl := hw'.symm; rw [HRB.out] at he; obtain rfl := he)
                    | (go_at_call 28; (with_reducible refine (lComment_c s r _ r0 r1 hs6).mono ?_); rintro e w' ⟨he, hw'⟩; obtain rfl := hw'.symm; rw [HCV.out] at he; obtain rfl := he)
                    | (go_at_call 29; (with_reducible refine (lDotted_c _ _).mono ?_); rintro e w' ⟨rfl, hw'⟩; obtain rfl := hw'.symm)
                    | (go_at_call 30; (with_reducible refine (lToken_c s r (isFd (kd y2.kind.toList)) (isFd (kd y1.kind.toList)) _ wI.heap.size (y.ready (s.extract q.toNat r.toNat) r) hYY hT r0 r1 HPA.out).mono ?_); rintro e w5 hn; rw [HTK.out] at hn; obtain ⟨⟨q5, rfl⟩, hU5, K5, T5, B5, hY5⟩ := hn))
                (try simp only [Exit.inBlock, Exit.then]); refine bodyPost_ret (results_tmp3 rfl _ _ _ rfl rfl rfl) rfl ?_
                rw [hres.out]
                exact ⟨_, _, _, _, rfl, HS1.below.trans ((HI.below.trans ((hU0.trans hU5).to_below (Nat.le_refl _) HI.below.size)).mono HS1.below.size)⟩
              | some ke =>
                obtain ⟨k5, e5⟩ := ke
                have hst : step s last dot p = some ⟨firstC s p, r, k5, e5⟩ := by rw [step_G', HG.out]; exact stepAt_some HTR.out
                have hm := step_moves s last dot p _ HS1.p0 HS1.p1 hst
                have m1 : r ≤ e5 := hm.le
                have m2 : e5 ≤ (s.size : Int) := hm.top
                have m3 : 0 ≤ e5 := by omega
                have HST := Aside0.mk hst
                clear hst hm
                by_cases hke : k5 = .eof
                · have HKE := Aside0.mk hke
                  go_wp2_with (first
                      | (go_at_call 27; (with_reducible refine (lBlanks_c s q _ q0 q1 hs6).mono ?_); rintro e w' ⟨he, hw'⟩; obtain rfl := hw'.symm; rw [HRB.out] at he; obtain rfl := he)
                      | (go_at_call 28; (with_reducible refine (lComment_c s r _ r0 r1 hs6).mono ?_); rintro e w' ⟨he, hw'⟩; obtain rfl := hw'.symm; rw [HCV.out] at he; obtain rfl := he)
                      | (go_at_call 29; (with_reducible refine (lDotted_c _ _).mono ?_); rintro e w' ⟨rfl, hw'⟩; obtain rfl := hw'.symm)
                      | (go_at_call 30; (with_reducible refine (lToken_c s r (isFd (kd y2.kind.toList)) (isFd (kd y1.kind.toList)) _ wI.heap.size (y.ready (s.extract q.toNat r.toNat) r) hYY hT r0 r1 HPA.out).mono ?_); rintro e w5 hn; rw [HTK.out] at hn; obtain ⟨rfl, hU5, K5, T5, B5, hk5, hY5⟩ := hn; have hkk : (K5.toList == [60, 101, 111, 102, 62]) = true := (by have h5 := kd_eof K5.toList; unfold kEof at h5; rw [h5, hk5]; exact decide_eq_true HKE.out); have HK5 := Aside0.mk hk5; clear hk5; have d0 := hY5.c0; have d1 : w5.cell? ⟨wI.heap.size, 1, none⟩ = some (.string (s.extract q.toNat r.toNat)) := hY5.c1; have d2 := hY5.c2; have d3 := hY5.c3; have d4 := hY5.c4; have d5 : w5.cell? ⟨wI.heap.size, 5, none⟩ = some (.int .i64 r) := hY5.c5; have d6 := hY5.c6; have d7 : w5.cell? ⟨wI.heap.size, 7, none⟩ = some (.slice A n C) := (by rw [← hycom]; exact hY5.c7); have dz := hY5.free; have hX5 : IsT ((w5.setCell ⟨wI.heap.size, 2, none⟩ (.string (s.extract r.toNat e5.toNat))).setCell ⟨wI.heap.size, 6, none⟩ (.int .i64 e5)) wI.heap.size ⟨K5, s.extract q.toNat r.toNat, s.extract r.toNat e5.toNat, T5, B5, r, e5, .slice A n C⟩ := (by have h5 := (hY5.set2 (s.extract r.toNat e5.toNat)).set6 e5; rw [← hycom]; exact h5); have hU6 := ((hU0.trans hU5).set 2 (.string (s.extract r.toNat e5.toNat))).set 6 (.int .i64 e5); have hB6 := HI.below.trans (hU6.to_below (Nat.le_refl _) HI.below.size); have hTR6 := HS1.row.below hB6; have hsz6 := Nat.le_trans HS1.below.size hB6.size)
                      | (at_builtin; refine append_tok w.heap.size rfl (.tmp 99) (.tmp 101) rfl _ _ ⟨K5, s.extract q.toNat r.toNat, s.extract r.toNat e5.toNat, T5, B5, r, e5, .slice A n C⟩ w5.heap.size (by simp [World.setCell]) rfl rfl ⟨_, _, _, rfl⟩ hTR6 hsz6 hys ?_; intro v1 w6 hT6 hg6; have hX6 : IsT w6 wI.heap.size _ := ((hg6.block wI.heap.size (hX5.alloc _).lt (fun he => by have := (HS1.row.at _ he.symm).1; omega)).trans (hX5.alloc _)); have f0 := hX6.c0))
                  have hfin := HS1.snoc HST.out HI HCC.out hU0 hU5 HK5.out hycom hg6
                  (try simp only [Exit.inBlock, Exit.then]); refine bodyPost_ret (results_tmp3 rfl _ _ _ rfl rfl rfl) rfl ?_
                  rw [HS1.ends HST.out HKE.out]
                  exact ⟨_, _, w.heap.size, rfl, hfin.1, rfl, hT6, hfin.2⟩
                · have HKE := Aside0.mk hke
                  go_wp2_with (first
                      | (go_at_call 27; (with_reducible refine (lBlanks_c s q _ q0 q1 hs6).mono ?_); rintro e w' ⟨he, hw'⟩; obtain rfl := hw'.symm; rw [HRB.out] at he; obtain rfl := he)
                      | (go_at_call 28; (with_reducible refine (lComment_c s r _ r0 r1 hs6).mono ?_); rintro e w' ⟨he, hw'⟩; obtain rfl := hw'.symm; rw [HCV.out] at he; obtain rfl := he)
                      | (go_at_call 29; (with_reducible refine (lDotted_c _ _).mono ?_); rintro e w' ⟨rfl, hw'⟩; obtain rfl := hw'.symm)
                      | (go_at_call 30; (with_reducible refine (lToken_c s r (isFd (kd y2.kind.toList)) (isFd (kd y1.kind.toList)) _ wI.heap.size (y.ready (s.extract q.toNat r.toNat) r) hYY hT r0 r1 HPA.out).mono ?_); rintro e w5 hn; rw [HTK.out] at hn; obtain ⟨rfl, hU5, K5, T5, B5, hk5, hY5⟩ := hn; have hkk : (K5.toList == [60, 101, 111, 102, 62]) = false := (by have h5 := kd_eof K5.toList; unfold kEof at h5; rw [h5, hk5]; exact decide_eq_false HKE.out); have HK5 := Aside0.mk hk5; clear hk5; have d0 := hY5.c0; have d1 : w5.cell? ⟨wI.heap.size, 1, none⟩ = some (.string (s.extract q.toNat r.toNat)) := hY5.c1; have d2 := hY5.c2; have d3 := hY5.c3; have d4 := hY5.c4; have d5 : w5.cell? ⟨wI.heap.size, 5, none⟩ = some (.int .i64 r) := hY5.c5; have d6 := hY5.c6; have d7 : w5.cell? ⟨wI.heap.size, 7, none⟩ = some (.slice A n C) := (by rw [← hycom]; exact hY5.c7); have dz := hY5.free; have hX5 : IsT ((w5.setCell ⟨wI.heap.size, 2, none⟩ (.string (s.extract r.toNat e5.toNat))).setCell ⟨wI.heap.size, 6, none⟩ (.int .i64 e5)) wI.heap.size ⟨K5, s.extract q.toNat r.toNat, s.extract r.toNat e5.toNat, T5, B5, r, e5, .slice A n C⟩ := (by have h5 := (hY5.set2 (s.extract r.toNat e5.toNat)).set6 e5; rw [← hycom]; exact h5); have hU6 := ((hU0.trans hU5).set 2 (.string (s.extract r.toNat e5.toNat))).set 6 (.int .i64 e5); have hB6 := HI.below.trans (hU6.to_below (Nat.le_refl _) HI.below.size); have hTR6 := HS1.row.below hB6; have hsz6 := Nat.le_trans HS1.below.size hB6.size)
                      | (at_builtin; refine append_tok w.heap.size rfl (.tmp 99) (.tmp 101) rfl _ _ ⟨K5, s.extract q.toNat r.toNat, s.extract r.toNat e5.toNat, T5, B5, r, e5, .slice A n C⟩ w5.heap.size (by simp [World.setCell]) rfl rfl ⟨_, _, _, rfl⟩ hTR6 hsz6 hys ?_; intro v1 w6 hT6 hg6; have hX6 : IsT w6 wI.heap.size _ := ((hg6.block wI.heap.size (hX5.alloc _).lt (fun he => by have := (HS1.row.at _ he.symm).1; omega)).trans (hX5.alloc _)); have f0 := hX6.c0))
                  have hfin := HS1.snoc HST.out HI HCC.out hU0 hU5 HK5.out hycom hg6
                  go_roundg n0
                  case measure => omega
                  case rel => exact ⟨_, e5, _, _, _, _, rfl, rfl, HS1.next HST.out HKE.out hfin.1 hT6 hfin.2 HK5.out⟩
            | false =>
              have hk1 : kd y1.kind.toList ≠ .dot := of_decide_eq_false (by rw [← hkd, h46])
              have HD : Aside0 (dot = false) := ⟨by rw [hv2, dotOf_ne hk1]⟩
              have HA : Aside0 (isFd last = isFd (kd y1.kind.toList)) := ⟨by rw [hv1]⟩
              have HPA : Aside0 (false = true → isFd (kd y1.kind.toList) = false) := ⟨fun h => by cases h⟩
              clear hv1 hv2 hkd hk1
              have HTK : Aside0 ((if (false) then tokF s r else tok s (isFd (kd y1.kind.toList)) r) = TR) := ⟨by rw [← HTR.out, HD.out, HA.out]⟩
              cases TR with
              | none =>
                have hres : Aside0 (R = none) := ⟨HS1.fault (by rw [step_G', HG.out]; exact stepAt_none HTR.out)⟩
                go_wp2_with (first
                    | (go_at_call 27; (with_reducible refine (lBlanks_c s q _ q0 q1 hs6).mono ?_); rintro e w' ⟨he, hw'⟩; obtain rfl := hw'.symm; rw [HRB.out] at he; obtain rfl := he)
                    | (go_at_call 28; (with_reducible refine (lComment_c s r _ r0 r1 hs6).mono ?_); rintro e w' ⟨he, hw'⟩; obtain rfl := hw'.symm; rw [HCV.out] at he; obtain rfl := he)
                    | (go_at_call 29; (with_reducible refine (lDotted_c _ _).mono ?_); rintro e w' ⟨rfl, hw'⟩; obtain rfl := hw'.symm)
                    | (go_at_call 30; (with_reducible refine (lToken_c s r (false) (isFd (kd y1.kind.toList)) _ wI.heap.size (y.ready (s.extract q.toNat r.toNat) r) hYY hT r0 r1 HPA.out).mono ?_); rintro e w5 hn; rw [HTK.out] at hn; obtain ⟨⟨q5, rfl⟩, hU5, K5, T5, B5, hY5⟩ := hn))
                (try simp only [Exit.inBlock, Exit.then]); refine bodyPost_ret (results_tmp3 rfl _ _ _ rfl rfl rfl) rfl ?_
                rw [hres.out]
                exact ⟨_, _, _, _, rfl, HS1.below.trans ((HI.below.trans ((hU0.trans hU5).to_below (Nat.le_refl _) HI.below.size)).mono HS1.below.size)⟩
              | some ke =>
                obtain ⟨k5, e5⟩ := ke
                have hst : step s last dot p = some ⟨firstC s p, r, k5, e5⟩ := by rw [step_G', HG.out]; exact stepAt_some HTR.out
                have hm := step_moves s last dot p _ HS1.p0 HS1.p1 hst
                have m1 : r ≤ e5 := hm.le
                have m2 : e5 ≤ (s.size : Int) := hm.top
                have m3 : 0 ≤ e5 := by omega
                have HST := Aside0.mk hst
                clear hst hm
                by_cases hke : k5 = .eof
                · have HKE := Aside0.mk hke
                  go_wp2_with (first
                      | (go_at_call 27; (with_reducible refine (lBlanks_c s q _ q0 q1 hs6).mono ?_); rintro e w' ⟨he, hw'⟩; obtain rfl := hw'.symm; rw [HRB.out] at he; obtain rfl := he)
                      | (go_at_call 28; (with_reducible refine (lComment_c s r _ r0 r1 hs6).mono ?_); rintro e w' ⟨he, hw'⟩; obtain rfl := hw'.symm; rw [HCV.out] at he; obtain rfl := he)
                      | (go_at_call 29; (with_reducible refine (lDotted_c _ _).mono ?_); rintro e w' ⟨rfl, hw'⟩; obtain rfl := hw'.symm)
                      | (go_at_call 30; (with_reducible refine (lToken_c s r (false) (isFd (kd y1.kind.toList)) _ wI.heap.size (y.ready (s.extract q.toNat r.toNat) r) hYY hT r0 r1 HPA.out).mono ?_); rintro e w5 hn; rw [HTK.out] at hn; obtain ⟨rfl, hU5, K5, T5, B5, hk5, hY5⟩ := hn; have hkk : (K5.toList == [60, 101, 111, 102, 62]) = true := (by have h5 := kd_eof K5.toList; unfold kEof at h5; rw [h5, hk5]; exact decide_eq_true HKE.out); have HK5 := Aside0.mk hk5; clear hk5; have d0 := hY5.c0; have d1 : w5.cell? ⟨wI.heap.size, 1, none⟩ = some (.string (s.extract q.toNat r.toNat)) := hY5.c1; have d2 := hY5.c2; have d3 := hY5.c3; have d4 := hY5.c4; have d5 : w5.cell? ⟨wI.heap.size, 5, none⟩ = some (.int .i64 r) := hY5.c5; have d6 := hY5.c6; have d7 : w5.cell? ⟨wI.heap.size, 7, none⟩ = some (.slice A n C) := (by rw [← hycom]; exact hY5.c7); have dz := hY5.free; have hX5 : IsT ((w5.setCell ⟨wI.heap.size, 2, none⟩ (.string (s.extract r.toNat e5.toNat))).setCell ⟨wI.heap.size, 6, none⟩ (.int .i64 e5)) wI.heap.size ⟨K5, s.extract q.toNat r.toNat, s.extract r.toNat e5.toNat, T5, B5, r, e5, .slice A n C⟩ := (by have h5 := (hY5.set2 (s.extract r.toNat e5.toNat)).set6 e5; rw [← hycom]; exact h5); have hU6 := ((hU0.trans hU5).set 2 (.string (s.extract r.toNat e5.toNat))).set 6 (.int .i64 e5); have hB6 := HI.below.trans (hU6.to_below (Nat.le_refl _) HI.below.size); have hTR6 := HS1.row.below hB6; have hsz6 := Nat.le_trans HS1.below.size hB6.size)
                      | (at_builtin; refine append_tok w.heap.size rfl (.tmp 99) (.tmp 101) rfl _ _ ⟨K5, s.extract q.toNat r.toNat, s.extract r.toNat e5.toNat, T5, B5, r, e5, .slice A n C⟩ w5.heap.size (by simp [World.setCell]) rfl rfl ⟨_, _, _, rfl⟩ hTR6 hsz6 hys ?_; intro v1 w6 hT6 hg6; have hX6 : IsT w6 wI.heap.size _ := ((hg6.block wI.heap.size (hX5.alloc _).lt (fun he => by have := (HS1.row.at _ he.symm).1; omega)).trans (hX5.alloc _)); have f0 := hX6.c0))
                  have hfin := HS1.snoc HST.out HI HCC.out hU0 hU5 HK5.out hycom hg6
                  (try simp only [Exit.inBlock, Exit.then]); refine bodyPost_ret (results_tmp3 rfl _ _ _ rfl rfl rfl) rfl ?_
                  rw [HS1.ends HST.out HKE.out]
                  exact ⟨_, _, w.heap.size, rfl, hfin.1, rfl, hT6, hfin.2⟩
                · have HKE := Aside0.mk hke
                  go_wp2_with (first
                      | (go_at_call 27; (with_reducible refine (lBlanks_c s q _ q0 q1 hs6).mono ?_); rintro e w' ⟨he, hw'⟩; obtain rfl := hw'.symm; rw [HRB.out] at he; obtain rfl := he)
                      | (go_at_call 28; (with_reducible refine (lComment_c s r _ r0 r1 hs6).mono ?_); rintro e w' ⟨he, hw'⟩; obtain rfl := hw'.symm; rw [HCV.out] at he; obtain rfl := he)
                      | (go_at_call 29; (with_reducible refine (lDotted_c _ _).mono ?_); rintro e w' ⟨rfl, hw'⟩; obtain rfl := hw'.symm)
                      | (go_at_call 30; (with_reducible refine (lToken_c s r (false) (isFd (kd y1.kind.toList)) _ wI.heap.size (y.ready (s.extract q.toNat r.toNat) r) hYY hT r0 r1 HPA.out).mono ?_); rintro e w5 hn; rw [HTK.out] at hn; obtain ⟨rfl, hU5, K5, T5, B5, hk5, hY5⟩ := hn; have hkk : (K5.toList == [60, 101, 111, 102, 62]) = false := (by have h5 := kd_eof K5.toList; unfold kEof at h5; rw [h5, hk5]; exact decide_eq_false HKE.out); have HK5 := Aside0.mk hk5; clear hk5; have d0 := hY5.c0; have d1 : w5.cell? ⟨wI.heap.size, 1, none⟩ = some (.string (s.extract q.toNat r.toNat)) := hY5.c1; have d2 := hY5.c2; have d3 := hY5.c3; have d4 := hY5.c4; have d5 : w5.cell? ⟨wI.heap.size, 5, none⟩ = some (.int .i64 r) := hY5.c5; have d6 := hY5.c6; have d7 : w5.cell? ⟨wI.heap.size, 7, none⟩ = some (.slice A n C) := (by rw [← hycom]; exact hY5.c7); have dz := hY5.free; have hX5 : IsT ((w5.setCell ⟨wI.heap.size, 2, none⟩ (.string (s.extract r.toNat e5.toNat))).setCell ⟨wI.heap.size, 6, none⟩ (.int .i64 e5)) wI.heap.size ⟨K5, s.extract q.toNat r.toNat, s.extract r.toNat e5.toNat, T5, B5, r, e5, .slice A n C⟩ := (by have h5 := (hY5.set2 (s.extract r.toNat e5.toNat)).set6 e5; rw [← hycom]; exact h5); have hU6 := ((hU0.trans hU5).set 2 (.string (s.extract r.toNat e5.toNat))).set 6 (.int .i64 e5); have hB6 := HI.below.trans (hU6.to_below (Nat.le_refl _) HI.below.size); have hTR6 := HS1.row.below hB6; have hsz6 := Nat.le_trans HS1.below.size hB6.size)
                      | (at_builtin; refine append_tok w.heap.size rfl (.tmp 99) (.tmp 101) rfl _ _ ⟨K5, s.extract q.toNat r.toNat, s.extract r.toNat e5.toNat, T5, B5, r, e5, .slice A n C⟩ w5.heap.size (by simp [World.setCell]) rfl rfl ⟨_, _, _, rfl⟩ hTR6 hsz6 hys ?_; intro v1 w6 hT6 hg6; have hX6 : IsT w6 wI.heap.size _ := ((hg6.block wI.heap.size (hX5.alloc _).lt (fun he => by have := (HS1.row.at _ he.symm).1; omega)).trans (hX5.alloc _)); have f0 := hX6.c0))
                  have hfin := HS1.snoc HST.out HI HCC.out hU0 hU5 HK5.out hycom hg6
                  go_roundg n0
                  case measure => omega
                  case rel => exact ⟨_, e5, _, _, _, _, rfl, rfl, HS1.next HST.out HKE.out hfin.1 hT6 hfin.2 HK5.out⟩
        · have HCV : Aside0 (Ending.returned (.int .i64 (commV (comm s r))) = Ending.returned (.int .i64 e)) := ⟨by rw [hcm]; rfl⟩
          have hde : decide (e < 0) = false := decide_eq_false (by omega)
          have HC := Aside0.mk hcm
          have HE := Aside0.mk her
          have heq : (e == r) = false := beqf her
          have hlt := hce.2.2 her
          have e1 := hce.2.1
          have re : r ≤ e := by omega
          clear hcm hce her
          go_wp2_with (first | (go_at_call 27; (with_reducible refine (lBlanks_c s q _ q0 q1 hs6).mono ?_); rintro e w' ⟨he, hw'⟩; obtain rfl := hw'.symm; rw [HRB.out] at he; obtain rfl := he) | (go_at_call 28; (with_reducible refine (lComment_c s r _ r0 r1 hs6).mono ?_); rintro e w' ⟨he, hw'⟩; obtain rfl := hw'.symm; rw [HCV.out] at he; obtain rfl := he))
          refine wp_region_noPanic ?_
          refine wp_region_held_drew (S := fun _ => True) (by kernel_rfl) trivial (fun hHeld => ?_)
          refine wpAnyH_take (i := 0) (oi := ?oi1) (v := ?v1) ?hi1 (by kernel_rfl) (by kernel_rfl) (by kernel_rfl) (fun _ _ _ h => h) ?hy1 hHeld ?re1
          case hi1 => (simp only [List.getElem?_toArray, List.getElem?_cons_zero]; rfl)
          case hy1 =>
            refine Or.inl ⟨by rfl, ?_⟩
            intro wq' hSw
            go_simp
            try with_reducible rfl
          (try simp only [Act.put, List.setIfInBounds_toArray, List.set_cons_zero, List.set_cons_succ])
          refine wpAnyH_take (i := 2) (oi := ?oi2) (v := ?v2) ?hi2 (by kernel_rfl) (by kernel_rfl) (by kernel_rfl) (fun _ _ _ h => h) ?hy2 hHeld ?re2
          case hi2 => (simp only [List.getElem?_toArray, List.getElem?_cons_succ, List.getElem?_cons_zero]; rfl)
          case hy2 =>
            refine Or.inl ⟨by rfl, ?_⟩
            intro wq' hSw
            go_simp
            try with_reducible rfl
          (try simp only [Act.put, List.setIfInBounds_toArray, List.set_cons_zero, List.set_cons_succ])
          refine wpAnyH_take (i := 3) (oi := ?oi3) (v := ?v3) ?hi3 (by kernel_rfl) (by kernel_rfl) (by kernel_rfl) (fun _ _ _ h => h) ?hy3 hHeld ?re3
          case hi3 => (simp only [List.getElem?_toArray, List.getElem?_cons_succ, List.getElem?_cons_zero]; rfl)
          case hy3 =>
            refine Or.inl ⟨by rfl, ?_⟩
            intro wq' hSw
            go_simp
            try with_reducible rfl
          (try simp only [Act.put, List.setIfInBounds_toArray, List.set_cons_zero, List.set_cons_succ])
          refine wpAnyH_take (i := 4) (oi := ?oi4) (v := ?v4) ?hi4 (by kernel_rfl) (by kernel_rfl) (by kernel_rfl) (fun _ _ _ h => h) ?hy4 hHeld ?re4
          case hi4 => (simp only [List.getElem?_toArray, List.getElem?_cons_succ, List.getElem?_cons_zero]; rfl)
          case hy4 =>
            refine Or.inl ⟨by rfl, ?_⟩
            intro wq' hSw
            go_simp
            try with_reducible rfl
          (try simp only [Act.put, List.setIfInBounds_toArray, List.set_cons_zero, List.set_cons_succ])
          refine wpAnyH_take (i := 5) (oi := ?oi5) (v := ?v5) ?hi5 (by kernel_rfl) (by kernel_rfl) (by kernel_rfl) (fun _ _ _ h => h) ?hy5 hHeld ?re5
          case hi5 => (simp only [List.getElem?_toArray, List.getElem?_cons_succ, List.getElem?_cons_zero]; rfl)
          case hy5 =>
            refine Or.inl ⟨by rfl, ?_⟩
            intro wq' hSw
            go_simp
            try with_reducible rfl
          (try simp only [Act.put, List.setIfInBounds_toArray, List.set_cons_zero, List.set_cons_succ])
          refine wpAnyH_take (i := 6) (oi := ?oi6) (v := ?v6) ?hi6 (by kernel_rfl) (by kernel_rfl) (by kernel_rfl) (fun _ _ _ h => h) ?hy6 hHeld ?re6
          case hi6 => (simp only [List.getElem?_toArray, List.getElem?_cons_succ, List.getElem?_cons_zero]; rfl)
          case hy6 =>
            refine Or.inl ⟨by rfl, ?_⟩
            intro wq' hSw
            go_simp
            try with_reducible rfl
          (try simp only [Act.put, List.setIfInBounds_toArray, List.set_cons_zero, List.set_cons_succ])
          refine wpAnyH_take (i := 7) (oi := ?oi7) (v := ?v7) ?hi7 (by kernel_rfl) (by kernel_rfl) (by kernel_rfl) (fun _ _ _ h => h) ?hy7 hHeld ?re7
          case hi7 => (simp only [List.getElem?_toArray, List.getElem?_cons_succ, List.getElem?_cons_zero]; rfl)
          case hy7 =>
            refine Or.inl ⟨by rfl, ?_⟩
            intro wq' hSw
            go_simp
            try with_reducible rfl
          (try simp only [Act.put, List.setIfInBounds_toArray, List.set_cons_zero, List.set_cons_succ])
          refine wpAnyH_take (i := 8) (oi := ?oi8) (v := ?v8) ?hi8 (by kernel_rfl) (by kernel_rfl) (by kernel_rfl) (fun _ _ _ h => h) ?hy8 hHeld ?re8
          case hi8 => (simp only [List.getElem?_toArray, List.getElem?_cons_succ, List.getElem?_cons_zero]; rfl)
          case hy8 =>
            refine Or.inl ⟨by rfl, ?_⟩
            intro wq' hSw
            go_simp
            try with_reducible rfl
          (try simp only [Act.put, List.setIfInBounds_toArray, List.set_cons_zero, List.set_cons_succ])
          refine wpAnyH_take (i := 9) (oi := ?oi9) (v := ?v9) ?hi9 (by kernel_rfl) (by kernel_rfl) (by kernel_rfl) (fun _ _ _ h => h) ?hy9 hHeld ?re9
          case hi9 => (simp only [List.getElem?_toArray, List.getElem?_cons_succ, List.getElem?_cons_zero]; rfl)
          case hy9 =>
            refine Or.inl ⟨by rfl, ?_⟩
            intro wq' hSw
            go_simp
            try with_reducible rfl
          (try simp only [Act.put, List.setIfInBounds_toArray, List.set_cons_zero, List.set_cons_succ])
          refine wpAnyH_take (i := 10) (oi := ?oi10) (v := ?v10) ?hi10 (by kernel_rfl) (by kernel_rfl) (by kernel_rfl) (fun _ _ _ h => h) ?hy10 hHeld ?re10
          case hi10 => (simp only [List.getElem?_toArray, List.getElem?_cons_succ, List.getElem?_cons_zero]; rfl)
          case hy10 =>
            refine Or.inl ⟨by rfl, ?_⟩
            intro wq' hSw
            go_simp
            try with_reducible rfl
          (try simp only [Act.put, List.setIfInBounds_toArray, List.set_cons_zero, List.set_cons_succ])
          refine wpAnyH_take (i := 11) (oi := ?oi11) (v := ?v11) ?hi11 (by kernel_rfl) (by kernel_rfl) (by kernel_rfl) (fun _ _ _ h => h) ?hy11 hHeld ?re11
          case hi11 => (simp only [List.getElem?_toArray, List.getElem?_cons_succ, List.getElem?_cons_zero]; rfl)
          case hy11 =>
            refine Or.inl ⟨by rfl, ?_⟩
            intro wq' hSw
            go_simp
            try with_reducible rfl
          (try simp only [Act.put, List.setIfInBounds_toArray, List.set_cons_zero, List.set_cons_succ])
          refine wpAnyH_take (i := 12) (oi := ?oi12) (v := ?v12) ?hi12 (by kernel_rfl) (by kernel_rfl) (by kernel_rfl) (fun _ _ _ h => h) ?hy12 hHeld ?re12
          case hi12 => (simp only [List.getElem?_toArray, List.getElem?_cons_succ, List.getElem?_cons_zero]; rfl)
          case hy12 =>
            refine Or.inl ⟨by rfl, ?_⟩
            intro wq' hSw
            go_simp
            try with_reducible rfl
          (try simp only [Act.put, List.setIfInBounds_toArray, List.set_cons_zero, List.set_cons_succ])
          refine wpAnyH_ready (rs := [1, 13]) (by kernel_rfl) (by simp) ?_
          refine AllReadyH.cons (o := ?o13) ?ho13 (fun K hK => ?st13) ?mo13
          case ho13 => (simp only [List.getElem?_toArray, List.getElem?_cons_succ, List.getElem?_cons_zero]; rfl)
          case st13 =>
            go_simp
            refine hK.out _ _ trivial (fun hHeld => ?_)
            clear hK K
            (try simp only [Act.put, List.setIfInBounds_toArray, List.set_cons_zero, List.set_cons_succ])
            refine wpAnyH_ready (rs := [13]) (by kernel_rfl) (by simp) ?_
            refine AllReadyH.cons (o := ?o14) ?ho14 (fun K hK => ?st14) AllReadyH.nil
            case ho14 => (simp only [List.getElem?_toArray, List.getElem?_cons_succ, List.getElem?_cons_zero]; rfl)
            case st14 =>
              go_simp
              refine hK.out _ _ trivial (fun hHeld => ?_)
              clear hK K
              (try simp only [Act.put, List.setIfInBounds_toArray, List.set_cons_zero, List.set_cons_succ])
              refine wpAnyH_ready (rs := [14]) (by kernel_rfl) (by simp) ?_
              refine AllReadyH.cons (o := ?o15) ?ho15 (fun K hK => ?st15) AllReadyH.nil
              case ho15 => (simp only [List.getElem?_toArray, List.getElem?_cons_succ, List.getElem?_cons_zero]; rfl)
              case st15 =>
                refine step_append_com9 (wI.heap.size + 1) rfl (.tmp 34) (.tmp 46) rfl (.slice A n C) n c _ _ _ _ rfl rfl hCom hszq hnb ?_
                intro g3 cap3 w3 HC3 hg3
                have hY3 : IsT w3 wI.heap.size y := (hg3.block wI.heap.size hY.lt (fun he => by have := hCom.own _ he.symm; omega)).trans hY
                have K7 := hY3.c7
                have Y7 := hY3.free 7
                refine hK.out _ _ trivial (fun hHeld => ?_)
                clear hK K
                (try simp only [Act.put, List.setIfInBounds_toArray, List.set_cons_zero, List.set_cons_succ])
                refine wpAnyH_take (i := 15) (oi := ?oi16) (v := ?v16) ?hi16 (by kernel_rfl) (by kernel_rfl) (by kernel_rfl) (fun _ _ _ h => h) ?hy16 hHeld ?re16
                case hi16 => (simp only [List.getElem?_toArray, List.getElem?_cons_succ, List.getElem?_cons_zero]; rfl)
                case hy16 =>
                  refine Or.inl ⟨by rfl, ?_⟩
                  intro wq' hSw
                  go_simp
                  try with_reducible rfl
                (try simp only [Act.put, List.setIfInBounds_toArray, List.set_cons_zero, List.set_cons_succ])
                refine wpAnyH_ready (rs := [16]) (by kernel_rfl) (by simp) ?_
                refine AllReadyH.cons (o := ?o17) ?ho17 (fun K hK => ?st17) AllReadyH.nil
                case ho17 => (simp only [List.getElem?_toArray, List.getElem?_cons_succ, List.getElem?_cons_zero]; rfl)
                case st17 =>
                  go_simp
                  refine hK.out _ _ trivial (fun hHeld => ?_)
                  clear hK K
                  (try simp only [Act.put, List.setIfInBounds_toArray, List.set_cons_zero, List.set_cons_succ])
                  refine wpAnyH_done (by kernel_rfl) ?_ _
                  refine NoPanic.normal ?_
                  go_wp2
                  go_roundg (((s.size : Int) - e).toNat + 1)
                  case measure => have := HI.kq; omega
                  case rel => exact ⟨e, _, n + 1, _, rfl, HI.more HRr.out HC.out HE.out e0 e1 hlt (by rw [hycom]; exact hg3) HC3⟩
          case mo13 =>
            refine AllReadyH.cons (o := ?o18) ?ho18 (fun K hK => ?st18) AllReadyH.nil
            case ho18 => (simp only [List.getElem?_toArray, List.getElem?_cons_succ, List.getElem?_cons_zero]; rfl)
            case st18 =>
              go_simp
              refine hK.out _ _ trivial (fun hHeld => ?_)
              clear hK K
              (try simp only [Act.put, List.setIfInBounds_toArray, List.set_cons_zero, List.set_cons_succ])
              refine wpAnyH_ready (rs := [1]) (by kernel_rfl) (by simp) ?_
              refine AllReadyH.cons (o := ?o19) ?ho19 (fun K hK => ?st19) AllReadyH.nil
              case ho19 => (simp only [List.getElem?_toArray, List.getElem?_cons_succ, List.getElem?_cons_zero]; rfl)
              case st19 =>
                go_simp
                refine hK.out _ _ trivial (fun hHeld => ?_)
                clear hK K
                (try simp only [Act.put, List.setIfInBounds_toArray, List.set_cons_zero, List.set_cons_succ])
                refine wpAnyH_ready (rs := [14]) (by kernel_rfl) (by simp) ?_
                refine AllReadyH.cons (o := ?o20) ?ho20 (fun K hK => ?st20) AllReadyH.nil
                case ho20 => (simp only [List.getElem?_toArray, List.getElem?_cons_succ, List.getElem?_cons_zero]; rfl)
                case st20 =>
                  refine step_append_com9 (wI.heap.size + 1) rfl (.tmp 34) (.tmp 46) rfl (.slice A n C) n c _ _ _ _ rfl rfl hCom hszq hnb ?_
                  intro g3 cap3 w3 HC3 hg3
                  have hY3 : IsT w3 wI.heap.size y := (hg3.block wI.heap.size hY.lt (fun he => by have := hCom.own _ he.symm; omega)).trans hY
                  have K7 := hY3.c7
                  have Y7 := hY3.free 7
                  refine hK.out _ _ trivial (fun hHeld => ?_)
                  clear hK K
                  (try simp only [Act.put, List.setIfInBounds_toArray, List.set_cons_zero, List.set_cons_succ])
                  refine wpAnyH_take (i := 15) (oi := ?oi21) (v := ?v21) ?hi21 (by kernel_rfl) (by kernel_rfl) (by kernel_rfl) (fun _ _ _ h => h) ?hy21 hHeld ?re21
                  case hi21 => (simp only [List.getElem?_toArray, List.getElem?_cons_succ, List.getElem?_cons_zero]; rfl)
                  case hy21 =>
                    refine Or.inl ⟨by rfl, ?_⟩
                    intro wq' hSw
                    go_simp
                    try with_reducible rfl
                  (try simp only [Act.put, List.setIfInBounds_toArray, List.set_cons_zero, List.set_cons_succ])
                  refine wpAnyH_ready (rs := [16]) (by kernel_rfl) (by simp) ?_
                  refine AllReadyH.cons (o := ?o22) ?ho22 (fun K hK => ?st22) AllReadyH.nil
                  case ho22 => (simp only [List.getElem?_toArray, List.getElem?_cons_succ, List.getElem?_cons_zero]; rfl)
                  case st22 =>
                    go_simp
                    refine hK.out _ _ trivial (fun hHeld => ?_)
                    clear hK K
                    (try simp only [Act.put, List.setIfInBounds_toArray, List.set_cons_zero, List.set_cons_succ])
                    refine wpAnyH_done (by kernel_rfl) ?_ _
                    refine NoPanic.normal ?_
                    go_wp2
                    go_roundg (((s.size : Int) - e).toNat + 1)
                    case measure => have := HI.kq; omega
                    case rel => exact ⟨e, _, n + 1, _, rfl, HI.more HRr.out HC.out HE.out e0 e1 hlt (by rw [hycom]; exact hg3) HC3⟩
end Go.Proofs.YtjepdlmcombmcaaGreatDoor.Lx
