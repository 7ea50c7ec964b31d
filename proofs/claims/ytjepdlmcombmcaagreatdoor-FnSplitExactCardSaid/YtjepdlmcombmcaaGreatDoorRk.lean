/- The reference's statements: what spec.Split returns; the two ways to split agree. Conditions: the text is such as is told. -/
import Derived.Test.YtjepdlmcombmcaaGreatDoorRj
import Derived.Test.YtjepdlmcombmcaaGreatDoorQk
namespace Go.Proofs.YtjepdlmcombmcaaGreatDoor.Lx
open Go.RowKit Go.Proofs.YtjepdlmcombmcaaGreatDoorW.PrintWords

/-! ### the told tokens lie one behind the other -/
def Fine (s : ByteArray) : Int → List Tk → Prop
  | _, [] => True
  | p, t :: ts => p ≤ t.com.getD t.pos ∧ t.com.getD t.pos ≤ t.pos ∧ t.pos ≤ t.e ∧ t.e ≤ (s.size : Int) ∧ (t.kd = .eof → ts = []) ∧ Fine s t.e ts
theorem toks_fine (s : ByteArray) : ∀ (m : Nat) (p : Int) (last : Kd) (dot : Bool) (l : List Tk), 0 ≤ p → p ≤ (s.size : Int) → toks s m p last dot = some l → Fine s p l := by
  intro m
  induction m with
  | zero => intro p last dot l _ _ h; cases h
  | succ m ih =>
    intro p last dot l h0 h1 h
    simp only [toks] at h
    split at h
    · cases h
    · rename_i t hst
      have hm := step_moves s last dot p t h0 h1 hst
      have m1 := hm.pos
      have m2 := hm.le
      have m3 := hm.top
      have mc : p ≤ t.com.getD t.pos ∧ t.com.getD t.pos ≤ t.pos := by
        cases hc : t.com with
        | none => simp; omega
        | some c => have := hm.com c hc; simp; omega
      split at h
      · injection h with h
        subst h
        exact ⟨mc.1, mc.2, m2, m3, fun _ => rfl, trivial⟩
      · rename_i hk
        split at h
        · cases h
        · rename_i l' hl
          injection h with h
          subst h
          exact ⟨mc.1, mc.2, m2, m3, fun hk' => absurd hk' hk, ih _ _ _ _ (by omega) m3 hl⟩
/-- What the reference makes of a text. -/
def specS (s : ByteArray) : Option (List (Int × Int × ByteArray)) := match toks s (s.size + 2) 0 .other false with
  | none => none
  | some l => some ((stmts 0 true l).map (stmOf s))
theorem extract_zero (s : ByteArray) : s.extract 0 0 = ⟨#[]⟩ := by
  apply ByteArray.ext
  simp
theorem ext_same (s : ByteArray) (k : Nat) : s.extract k k = ByteArray.empty := by simp
theorem fixS_map (s : ByteArray) (m : List (Int × Int)) : fixS (m.map (stmOf s)) = (fix0 m).map (stmOf s) := by
  cases m with
  | nil =>
    show [((0 : Int), (0 : Int), (⟨#[]⟩ : ByteArray))] = [((0 : Int), (0 : Int), s.extract 0 0)]
    rw [extract_zero]
  | cons q m =>
    unfold fixS fix0
    rw [if_neg (by simp), if_neg (by simp)]
theorem split_same (s : ByteArray) : implS s = specS s := by
  have h := isplit_all s (s.size + 2) (s.size + 2) (Nat.le_refl _) (by omega) 0
  unfold implS specS joinS
  cases hi : isplit s (s.size + 2) false 0 0 0 .other false with
  | none =>
    rw [hi] at h
    cases ht : toks s (s.size + 2) 0 .other false with
    | none => rfl
    | some l => rw [ht] at h; cases h
  | some m =>
    rw [hi] at h
    cases ht : toks s (s.size + 2) 0 .other false with
    | none => rw [ht] at h; cases h
    | some l =>
      rw [ht] at h
      simp only [Option.some.injEq] at h
      simp only [List.nil_append, Option.some.injEq]
      rw [fixS_map, h]
/-- The rounds' invariant. -/
structure PInv (w1 wr : World) (s : ByteArray) (l : List Tk) (S : List (Int × Int)) (i : Nat) (v : Value) (from_ : Int) (opn : Bool) (acc : List (Int × Int)) (p : Int) : Prop where
  below : Below w1.heap.size w1 wr
  row : ORow wr w1.heap.size v (acc.map (stmOf s))
  fine : Fine s p (l.drop i)
  f0 : 0 ≤ from_
  f1 : from_ ≤ p
  join : acc ++ stmts from_ opn (l.drop i) = S
  len : acc.length ≤ i
  il : i ≤ l.length
section
variable {w1 wr w3 : World} {s : ByteArray} {l : List Tk} {S : List (Int × Int)} {i : Nat} {v v3 : Value} {from_ a b p : Int} {opn opn' : Bool} {acc : List (Int × Int)} {t : Tk} {ts : List Tk}
theorem PInv.at (h : PInv w1 wr s l S i v from_ opn acc p) (hti : l.drop i = t :: ts) : l.drop (i + 1) = ts ∧ i < l.length ∧ p ≤ t.com.getD t.pos ∧ t.com.getD t.pos ≤ t.pos ∧ t.pos ≤ t.e ∧ t.e ≤ (s.size : Int) ∧ (t.kd = .eof → ts = []) ∧ Fine s t.e ts := by
  have hf := h.fine
  rw [hti] at hf
  refine ⟨?_, ?_, hf⟩
  · rw [← List.drop_drop, hti]
    rfl
  · by_cases hi : i < l.length
    · exact hi
    · rw [List.drop_eq_nil_of_le (by omega)] at hti
      cases hti
theorem PInv.app (h : PInv w1 wr s l S i v from_ opn acc p) (hti : l.drop i = t :: ts) (hlaw : stmts from_ opn (t :: ts) = (a, b) :: stmts a false ts) (ha0 : 0 ≤ a) (ha1 : a ≤ t.e) (hB : Below w1.heap.size w1 w3) (hO : ORow w3 w1.heap.size v3 (acc.map (stmOf s) ++ [(a, b, s.extract a.toNat b.toNat)])) :
    PInv w1 w3 s l S (i + 1) v3 a false (acc ++ [(a, b)]) t.e := by
  obtain ⟨h1, h2, h3, h4, h5, h6, _, h8⟩ := h.at hti
  refine ⟨hB, by simpa [stmOf] using hO, by rw [h1]; exact h8, ha0, ha1, ?_, by have := h.len; simp; omega, h2⟩
  rw [← h.join, hti, hlaw, h1]
  simp
theorem PInv.skip (h : PInv w1 wr s l S i v from_ opn acc p) (hti : l.drop i = t :: ts) (hlaw : stmts from_ opn (t :: ts) = stmts a opn' ts) (ha0 : 0 ≤ a) (ha1 : a ≤ t.e) (hB : Below w1.heap.size w1 w3) (hO : ORow w3 w1.heap.size v (acc.map (stmOf s))) :
    PInv w1 w3 s l S (i + 1) v a opn' acc t.e := by
  obtain ⟨h1, h2, h3, h4, h5, h6, _, h8⟩ := h.at hti
  refine ⟨hB, hO, by rw [h1]; exact h8, ha0, ha1, ?_, by have := h.len; omega, h2⟩
  rw [← h.join, hti, hlaw, h1]
end
theorem toks_len (s : ByteArray) : ∀ (m : Nat) (p : Int) (last : Kd) (dot : Bool) (l : List Tk), toks s m p last dot = some l → l.length ≤ m := by
  intro m
  induction m with
  | zero => intro p last dot l h; cases h
  | succ m ih =>
    intro p last dot l h
    simp only [toks] at h
    split at h
    · cases h
    · split at h
      · injection h with h
        rw [← h]
        simp
      · split at h
        · cases h
        · rename_i l' hl
          injection h with h
          rw [← h]
          have := ih _ _ _ _ hl
          simp
          omega
set_option maxRecDepth 100000 in
set_option maxHeartbeats 16000000 in
theorem specSplit_c (w : World) (s : ByteArray) (hT : Txt s) : Calls Tryz.prog 10 #[.string s] w (RawsE (specS s) w) := by
  have hs5 := hT.size
  cases hR : toks s (s.size + 2) 0 .other false with
  | none =>
    have HR := Aside0.mk hR
    have hRn : Aside0 (specS s = none) := ⟨by unfold specS; rw [hR]⟩
    clear hR
    go_enter Tryz.func10, Tryz.ntmps10
    go_wp2_with (first | (go_at_call 18; (with_reducible refine (lex_c _ s hT).mono ?_); rintro e w1 hn; rw [HR.out] at hn; obtain ⟨A, n, C, q, rfl, hB1⟩ := hn))
    (try simp only [Exit.inBlock, Exit.then]); refine bodyPost_ret (results_tmp2 rfl _ _ _) rfl ?_
    rw [hRn.out]
    exact ⟨rfl, hB1⟩
  | some l =>
    have HR := Aside0.mk hR
    have hRn : Aside0 (specS s = some ((stmts 0 true l).map (stmOf s))) := ⟨by unfold specS; rw [hR]⟩
    have hfine := Aside0.mk (toks_fine s _ 0 _ _ l (Int.le_refl _) (by omega) hR)
    have hll := toks_len s _ _ _ _ l hR
    clear hR
    go_enter Tryz.func10, Tryz.ntmps10
    go_wp2_with (first | (go_at_call 18; (with_reducible refine (lex_c _ s hT).mono ?_); rintro e w1 hn; rw [HR.out] at hn; obtain ⟨v0, ys, B0, rfl, hB1, hBB, hTR, hTk⟩ := hn; obtain ⟨A0, C0, hv0⟩ := hTR.shape; obtain rfl := hv0))
    have hyl : ys.length = l.length := hTk.1
    rw [hyl]
    go_loopg [7, 8, 9, 10] (l.length + 1) (fun kq v7 v8 v9 v10 wr => ∃ (i : Nat) (v : Value) (from_ : Int) (opn : Bool) (acc : List (Int × Int)) (p : Int), v10 = .int .i64 (i : Int) ∧ v7 = v ∧ v8 = .int .i64 from_ ∧ v9 = .bool opn ∧ Aside0 (l.length - i < kq) ∧ PInv w1 wr s l (stmts 0 true l) i v from_ opn acc p)
    case atStart => exact ⟨0, _, 0, true, [], 0, rfl, rfl, rfl, rfl, ⟨by omega⟩, ⟨Below.refl _ _, ORow.nil _ _, hfine.out, Int.le_refl _, Int.le_refl _, rfl, Nat.le_refl _, by omega⟩⟩
    case round =>
      obtain ⟨i, v, from_, opn, acc, p, rfl, rfl, rfl, rfl, HA, HI⟩ := hrel
      have hBr := HI.below
      have hil := HI.il
      by_cases hi : i < l.length
      · have hd : decide ((i : Int) < (l.length : Int)) = true := decide_eq_true (by omega)
        have hw := iwrap ((i : Int) + 1) (by omega) (by omega)
        obtain ⟨A, C, hv⟩ := HI.row.shape
        obtain ⟨m, hm⟩ : ∃ m, (acc.map (stmOf s)).length = m := ⟨_, rfl⟩
        have hml : (acc.map (stmOf s)).length = m := hm
        have hml2 : m ≤ 100000 := by have := HI.len; rw [← hm, List.length_map]; omega
        rw [hm] at hv
        obtain rfl := hv
        clear hm
        obtain ⟨t, ht⟩ : ∃ t, l[i]? = some t := ⟨_, List.getElem?_eq_getElem hi⟩
        obtain ⟨y, hy⟩ : ∃ y, ys[i]? = some y := ⟨_, List.getElem?_eq_getElem (by omega)⟩
        obtain ⟨ts, hti⟩ : ∃ ts, l.drop i = t :: ts := ⟨l.drop (i + 1), by rw [List.drop_eq_getElem_cons hi]; rw [List.getElem?_eq_getElem hi] at ht; injection ht with ht; rw [ht]⟩
        obtain ⟨hk1, hk2, hCm⟩ := hTk.2 i y t hy ht
        obtain ⟨hp1, hp2, hp3, hp4, hp5, hp6, hp7, hp8⟩ := HI.at hti
        have HE := Aside0.mk hp7
        have hf0 := HI.f0
        have hf1 := HI.f1
        obtain ⟨G, C1, hv1, hcl⟩ := (hTR.below hBr).get hy
        rw [hyl] at hv1
        obtain rfl : A0 = some ⟨G, 0, none⟩ := by injection hv1
        clear hv1 hp7 hp8 hp1
        have q0 : wr.cell? ⟨G, i * 8, none⟩ = some (.string y.kind) := hcl 0 (by omega)
        have q1 : wr.cell? ⟨G, i * 8 + 1, none⟩ = some (.string y.sp) := hcl 1 (by omega)
        have q2 : wr.cell? ⟨G, i * 8 + 2, none⟩ = some (.string y.raw) := hcl 2 (by omega)
        have q3 : wr.cell? ⟨G, i * 8 + 3, none⟩ = some (.string y.txt) := hcl 3 (by omega)
        have q4 : wr.cell? ⟨G, i * 8 + 4, none⟩ = some (.int .i64 y.base) := hcl 4 (by omega)
        have q5 : wr.cell? ⟨G, i * 8 + 5, none⟩ = some (.int .i64 y.tp) := hcl 5 (by omega)
        have q6 : wr.cell? ⟨G, i * 8 + 6, none⟩ = some (.int .i64 y.te) := hcl 6 (by omega)
        have q7 : wr.cell? ⟨G, i * 8 + 7, none⟩ = some y.com := hcl 7 (by omega)
        clear hcl
        have c0 : (0 : Int) ≤ (i : Int) := by omega
        have c1 : (i : Int) < (l.length : Int) := by omega
        have HBW : Aside0 (∀ o, Below w1.heap.size w1 (wr.alloc o)) := ⟨fun o => below_alloc hBr o⟩
        have HOW : Aside0 (∀ o, ORow (wr.alloc o) w1.heap.size (.slice A m C) (acc.map (stmOf s))) := ⟨fun o => HI.row.below (below_alloc (Below.refl _ _) o)⟩
        have hOw' : ∀ k, (Value.slice A m C).ownBlock = some k → k ≠ wr.heap.size := fun k hk => by
          rcases HI.row.2 with ⟨hz, _⟩ | ⟨g', cap', cur', hz, _, hh, _⟩
          · rw [hz] at hk; simp [Value.ownBlock] at hk
          · rw [hz] at hk
            have : g' = k := by simpa [Value.ownBlock] using hk
            have := blk_lt hh
            omega
        have hkd3 : t.kd = .semi ∨ t.kd = .eof ∨ (t.kd ≠ .semi ∧ t.kd ≠ .eof) := by cases t.kd <;> simp
        have y0 : 0 ≤ y.tp := by
          have h9 : 0 ≤ t.com.getD t.pos := by omega
          omega
        have y1 : y.tp ≤ (s.size : Int) := by omega
        have fy : from_ ≤ y.tp := by omega
        have ye : y.tp ≤ t.e := by omega
        have fe : from_ ≤ t.e := by omega
        have HK1 := Aside0.mk hk1
        have HK2 := Aside0.mk hk2
        clear hk1 hk2
        cases hcm : t.com with
        | none =>
          have HCM := Aside0.mk hcm
          rw [hcm] at hCm hp3 hp4
          simp only [Option.getD_none] at hp3 hp4
          clear hcm
          obtain ⟨Ac, Cc, hyc⟩ := hCm
          rw [hyc] at q7
          have HYW : Aside0 (IsT (wr.alloc (.cells #[.string y.kind, .string y.sp, .string y.raw, .string y.txt, .int .i64 y.base, .int .i64 y.tp, .int .i64 y.te, .slice Ac 0 Cc] 45)) wr.heap.size y) := ⟨by unfold IsT Tt.cells; rw [hyc]; exact heap_alloc_new wr _⟩
          clear hyc
          cases opn with
          | true =>
            rcases hkd3 with hkd | hkd | hkd
            · have hks : (y.kind.toList == [59]) = true := by rw [kd_semi, HK1.out]; exact decide_eq_true hkd
              have hke : (y.kind.toList == [60, 101, 111, 102, 62]) = false := by have h5 := kd_eof y.kind.toList; unfold kEof at h5; rw [h5, HK1.out]; exact decide_eq_false (by rw [hkd]; decide)
              have hkn : (y.kind.toList != [60, 101, 111, 102, 62]) = true := by simp only [bne, hke]; rfl
              have HKD := Aside0.mk hkd
              clear hkd
              have HSS : Aside0 (stmts from_ true (t :: ts) = (from_, y.tp) :: stmts from_ false ts) := ⟨by
                simp only [stmts]
                rw [if_neg (by decide), if_pos (by rw [HKD.out]; simp), ← HK2.out]⟩
              go_wp2
              refine wp_any ?_
              intro w7 hw7
              have hY7 : IsT w7 wr.heap.size y := by rw [hw7]; exact HYW.out
              have hB7 : Below w1.heap.size w1 w7 := by rw [hw7]; exact HBW.out _
              have hO7 : ORow w7 w1.heap.size (.slice A m C) (acc.map (stmOf s)) := by rw [hw7]; exact HOW.out _
              clear hw7
              have hsz7 : w1.heap.size ≤ w7.heap.size := hB7.size
              have hOb : ∀ k, (Value.slice A m C).ownBlock = some k → k ≠ wr.heap.size := hOw'
              refine wp_region_noPanic ?_
              refine wp_region_held_drew (S := fun W => W.cell? ⟨wr.heap.size, 5, none⟩ = some (.int .i64 y.tp)) (by kernel_rfl) hY7.c5 (fun hHeld => ?_)
              refine wpAnyH_take (i := 0) (oi := ?oi1) (v := ?v1) ?hi1 (by kernel_rfl) (by kernel_rfl) (by kernel_rfl) (fun _ _ _ h => h) ?hy1 hHeld ?re1
              case hi1 => (simp only [List.getElem?_toArray, List.getElem?_cons_zero]; rfl)
              case hy1 =>
                refine Or.inl ⟨by rfl, ?_⟩
                intro wq hSw
                go_split_ands
                go_simp
                try with_reducible rfl
              (try simp only [Act.put, List.setIfInBounds_toArray, List.set_cons_zero, List.set_cons_succ])
              refine wpAnyH_take (i := 1) (oi := ?oi2) (v := ?v2) ?hi2 (by kernel_rfl) (by kernel_rfl) (by kernel_rfl) (fun _ _ _ h => h) ?hy2 hHeld ?re2
              case hi2 => (simp only [List.getElem?_toArray, List.getElem?_cons_succ, List.getElem?_cons_zero]; rfl)
              case hy2 =>
                refine Or.inl ⟨by rfl, ?_⟩
                intro wq hSw
                go_split_ands
                go_simp
                try with_reducible rfl
              (try simp only [Act.put, List.setIfInBounds_toArray, List.set_cons_zero, List.set_cons_succ])
              refine wpAnyH_take (i := 2) (oi := ?oi3) (v := ?v3) ?hi3 (by kernel_rfl) (by kernel_rfl) (by kernel_rfl) (fun _ _ _ h => h) ?hy3 hHeld ?re3
              case hi3 => (simp only [List.getElem?_toArray, List.getElem?_cons_succ, List.getElem?_cons_zero]; rfl)
              case hy3 =>
                refine Or.inl ⟨by rfl, ?_⟩
                intro wq hSw
                go_split_ands
                go_simp
                try with_reducible rfl
              (try simp only [Act.put, List.setIfInBounds_toArray, List.set_cons_zero, List.set_cons_succ])
              refine wpAnyH_take (i := 3) (oi := ?oi4) (v := ?v4) ?hi4 (by kernel_rfl) (by kernel_rfl) (by kernel_rfl) (fun _ _ _ h => h) ?hy4 hHeld ?re4
              case hi4 => (simp only [List.getElem?_toArray, List.getElem?_cons_succ, List.getElem?_cons_zero]; rfl)
              case hy4 =>
                refine Or.inl ⟨by rfl, ?_⟩
                intro wq hSw
                go_split_ands
                go_simp
                try with_reducible rfl
              (try simp only [Act.put, List.setIfInBounds_toArray, List.set_cons_zero, List.set_cons_succ])
              refine wpAnyH_take (i := 4) (oi := ?oi5) (v := ?v5) ?hi5 (by kernel_rfl) (by kernel_rfl) (by kernel_rfl) (fun _ _ _ h => h) ?hy5 hHeld ?re5
              case hi5 => (simp only [List.getElem?_toArray, List.getElem?_cons_succ, List.getElem?_cons_zero]; rfl)
              case hy5 =>
                refine Or.inl ⟨by rfl, ?_⟩
                intro wq hSw
                go_split_ands
                go_simp
                try with_reducible rfl
              (try simp only [Act.put, List.setIfInBounds_toArray, List.set_cons_zero, List.set_cons_succ])
              refine wpAnyH_take (i := 5) (oi := ?oi6) (v := ?v6) ?hi6 (by kernel_rfl) (by kernel_rfl) (by kernel_rfl) (fun _ _ _ h => h) ?hy6 hHeld ?re6
              case hi6 => (simp only [List.getElem?_toArray, List.getElem?_cons_succ, List.getElem?_cons_zero]; rfl)
              case hy6 =>
                refine Or.inl ⟨by rfl, ?_⟩
                intro wq hSw
                go_split_ands
                go_simp
                try with_reducible rfl
              (try simp only [Act.put, List.setIfInBounds_toArray, List.set_cons_zero, List.set_cons_succ])
              refine wpAnyH_take (i := 6) (oi := ?oi7) (v := ?v7) ?hi7 (by kernel_rfl) (by kernel_rfl) (by kernel_rfl) (fun _ _ _ h => h) ?hy7 hHeld ?re7
              case hi7 => (simp only [List.getElem?_toArray, List.getElem?_cons_succ, List.getElem?_cons_zero]; rfl)
              case hy7 =>
                refine Or.inl ⟨by rfl, ?_⟩
                intro wq hSw
                go_split_ands
                go_simp
                try with_reducible rfl
              (try simp only [Act.put, List.setIfInBounds_toArray, List.set_cons_zero, List.set_cons_succ])
              refine wpAnyH_take (i := 7) (oi := ?oi8) (v := ?v8) ?hi8 (by kernel_rfl) (by kernel_rfl) (by kernel_rfl) (fun _ _ _ h => h) ?hy8 hHeld ?re8
              case hi8 => (simp only [List.getElem?_toArray, List.getElem?_cons_succ, List.getElem?_cons_zero]; rfl)
              case hy8 =>
                refine Or.inl ⟨by rfl, ?_⟩
                intro wq hSw
                go_split_ands
                go_simp
                try with_reducible rfl
              (try simp only [Act.put, List.setIfInBounds_toArray, List.set_cons_zero, List.set_cons_succ])
              refine wpAnyH_take (i := 8) (oi := ?oi9) (v := ?v9) ?hi9 (by kernel_rfl) (by kernel_rfl) (by kernel_rfl) (fun _ _ _ h => h) ?hy9 hHeld ?re9
              case hi9 => (simp only [List.getElem?_toArray, List.getElem?_cons_succ, List.getElem?_cons_zero]; rfl)
              case hy9 =>
                refine Or.inl ⟨by rfl, ?_⟩
                intro wq hSw
                go_split_ands
                go_simp
                try with_reducible rfl
              (try simp only [Act.put, List.setIfInBounds_toArray, List.set_cons_zero, List.set_cons_succ])
              refine wpAnyH_take (i := 9) (oi := ?oi10) (v := ?v10) ?hi10 (by kernel_rfl) (by kernel_rfl) (by kernel_rfl) (fun _ _ _ h => h) ?hy10 hHeld ?re10
              case hi10 => (simp only [List.getElem?_toArray, List.getElem?_cons_succ, List.getElem?_cons_zero]; rfl)
              case hy10 =>
                refine Or.inl ⟨by rfl, ?_⟩
                intro wq hSw
                go_split_ands
                go_simp
                try with_reducible rfl
              (try simp only [Act.put, List.setIfInBounds_toArray, List.set_cons_zero, List.set_cons_succ])
              refine wpAnyH_ready (rs := [10]) (by kernel_rfl) (by simp) ?_
              refine AllReadyH.cons (o := ?o11) ?ho11 (fun K hK => ?st11) AllReadyH.nil
              case ho11 => (simp only [List.getElem?_toArray, List.getElem?_cons_succ, List.getElem?_cons_zero]; rfl)
              case st11 =>
                go_simp
                refine hK.out _ _ (hY7.alloc _).c5 (fun hHeld => ?_)
                clear hK K
                (try simp only [Act.put, List.setIfInBounds_toArray, List.set_cons_zero, List.set_cons_succ])
                refine wpAnyH_ready (rs := [11]) (by kernel_rfl) (by simp) ?_
                refine AllReadyH.cons (o := ?o12) ?ho12 (fun K hK => ?st12) AllReadyH.nil
                case ho12 => (simp only [List.getElem?_toArray, List.getElem?_cons_succ, List.getElem?_cons_zero]; rfl)
                case st12 =>
                  refine step_append_out w1.heap.size rfl (.tmp 65) (.tmp 75) rfl (.slice A m C) (acc.map (stmOf s)) m hml from_ y.tp (s.extract (from_).toNat y.tp.toNat) rfl rfl hO7 hsz7 hml2 ?_
                  intro g3 cap3 w3 hO3 hg3
                  have hY3 : IsT w3 wr.heap.size y := (hg3.block wr.heap.size hY7.lt (fun he => hOb _ he.symm rfl)).trans hY7
                  have hB3 : Below w1.heap.size w1 w3 := hB7.grown hg3 hB7.size (fun k hk => hO7.own k hk)
                  refine hK.out _ _ hY3.c5 (fun hHeld => ?_)
                  clear hK K
                  (try simp only [Act.put, List.setIfInBounds_toArray, List.set_cons_zero, List.set_cons_succ])
                  refine wpAnyH_take (i := 12) (oi := ?oi13) (v := ?v13) ?hi13 (by kernel_rfl) (by kernel_rfl) (by kernel_rfl) (fun _ _ _ h => h) ?hy13 hHeld ?re13
                  case hi13 => (simp only [List.getElem?_toArray, List.getElem?_cons_succ, List.getElem?_cons_zero]; rfl)
                  case hy13 =>
                    refine Or.inl ⟨by rfl, ?_⟩
                    intro wq hSw
                    go_split_ands
                    go_simp
                    try with_reducible rfl
                  (try simp only [Act.put, List.setIfInBounds_toArray, List.set_cons_zero, List.set_cons_succ])
                  refine wpAnyH_done (by kernel_rfl) ?_ _
                  refine NoPanic.normal ?_
                  go_wp2
                  go_roundg (l.length - i)
                  case measure => have := HA.out; omega
                  case rel => exact ⟨i + 1, _, from_, false, acc ++ [(from_, y.tp)], t.e, by congr 1, rfl, rfl, rfl, ⟨by omega⟩, HI.app hti HSS.out (by omega) (by omega) hB3 hO3⟩
            · have hks : (y.kind.toList == [59]) = false := by rw [kd_semi, HK1.out]; exact decide_eq_false (by rw [hkd]; decide)
              have hke : (y.kind.toList == [60, 101, 111, 102, 62]) = true := by have h5 := kd_eof y.kind.toList; unfold kEof at h5; rw [h5, HK1.out]; exact decide_eq_true hkd
              have hkn : (y.kind.toList != [60, 101, 111, 102, 62]) = false := by simp only [bne, hke]; rfl
              have HKD := Aside0.mk hkd
              clear hkd
              have HSS : Aside0 (stmts from_ true (t :: ts) = (from_, y.tp) :: stmts from_ false ts) := ⟨by
                simp only [stmts]
                rw [if_neg (by decide), if_pos (by rw [HKD.out]; simp), ← HK2.out]⟩
              go_wp2
              refine wp_any ?_
              intro w7 hw7
              have hY7 : IsT w7 wr.heap.size y := by rw [hw7]; exact HYW.out
              have hB7 : Below w1.heap.size w1 w7 := by rw [hw7]; exact HBW.out _
              have hO7 : ORow w7 w1.heap.size (.slice A m C) (acc.map (stmOf s)) := by rw [hw7]; exact HOW.out _
              clear hw7
              have hsz7 : w1.heap.size ≤ w7.heap.size := hB7.size
              have hOb : ∀ k, (Value.slice A m C).ownBlock = some k → k ≠ wr.heap.size := hOw'
              refine wp_region_noPanic ?_
              refine wp_region_held_drew (S := fun W => W.cell? ⟨wr.heap.size, 5, none⟩ = some (.int .i64 y.tp)) (by kernel_rfl) hY7.c5 (fun hHeld => ?_)
              refine wpAnyH_take (i := 0) (oi := ?oi14) (v := ?v14) ?hi14 (by kernel_rfl) (by kernel_rfl) (by kernel_rfl) (fun _ _ _ h => h) ?hy14 hHeld ?re14
              case hi14 => (simp only [List.getElem?_toArray, List.getElem?_cons_zero]; rfl)
              case hy14 =>
                refine Or.inl ⟨by rfl, ?_⟩
                intro wq hSw
                go_split_ands
                go_simp
                try with_reducible rfl
              (try simp only [Act.put, List.setIfInBounds_toArray, List.set_cons_zero, List.set_cons_succ])
              refine wpAnyH_take (i := 1) (oi := ?oi15) (v := ?v15) ?hi15 (by kernel_rfl) (by kernel_rfl) (by kernel_rfl) (fun _ _ _ h => h) ?hy15 hHeld ?re15
              case hi15 => (simp only [List.getElem?_toArray, List.getElem?_cons_succ, List.getElem?_cons_zero]; rfl)
              case hy15 =>
                refine Or.inl ⟨by rfl, ?_⟩
                intro wq hSw
                go_split_ands
                go_simp
                try with_reducible rfl
              (try simp only [Act.put, List.setIfInBounds_toArray, List.set_cons_zero, List.set_cons_succ])
              refine wpAnyH_take (i := 2) (oi := ?oi16) (v := ?v16) ?hi16 (by kernel_rfl) (by kernel_rfl) (by kernel_rfl) (fun _ _ _ h => h) ?hy16 hHeld ?re16
              case hi16 => (simp only [List.getElem?_toArray, List.getElem?_cons_succ, List.getElem?_cons_zero]; rfl)
              case hy16 =>
                refine Or.inl ⟨by rfl, ?_⟩
                intro wq hSw
                go_split_ands
                go_simp
                try with_reducible rfl
              (try simp only [Act.put, List.setIfInBounds_toArray, List.set_cons_zero, List.set_cons_succ])
              refine wpAnyH_take (i := 3) (oi := ?oi17) (v := ?v17) ?hi17 (by kernel_rfl) (by kernel_rfl) (by kernel_rfl) (fun _ _ _ h => h) ?hy17 hHeld ?re17
              case hi17 => (simp only [List.getElem?_toArray, List.getElem?_cons_succ, List.getElem?_cons_zero]; rfl)
              case hy17 =>
                refine Or.inl ⟨by rfl, ?_⟩
                intro wq hSw
                go_split_ands
                go_simp
                try with_reducible rfl
              (try simp only [Act.put, List.setIfInBounds_toArray, List.set_cons_zero, List.set_cons_succ])
              refine wpAnyH_take (i := 4) (oi := ?oi18) (v := ?v18) ?hi18 (by kernel_rfl) (by kernel_rfl) (by kernel_rfl) (fun _ _ _ h => h) ?hy18 hHeld ?re18
              case hi18 => (simp only [List.getElem?_toArray, List.getElem?_cons_succ, List.getElem?_cons_zero]; rfl)
              case hy18 =>
                refine Or.inl ⟨by rfl, ?_⟩
                intro wq hSw
                go_split_ands
                go_simp
                try with_reducible rfl
              (try simp only [Act.put, List.setIfInBounds_toArray, List.set_cons_zero, List.set_cons_succ])
              refine wpAnyH_take (i := 5) (oi := ?oi19) (v := ?v19) ?hi19 (by kernel_rfl) (by kernel_rfl) (by kernel_rfl) (fun _ _ _ h => h) ?hy19 hHeld ?re19
              case hi19 => (simp only [List.getElem?_toArray, List.getElem?_cons_succ, List.getElem?_cons_zero]; rfl)
              case hy19 =>
                refine Or.inl ⟨by rfl, ?_⟩
                intro wq hSw
                go_split_ands
                go_simp
                try with_reducible rfl
              (try simp only [Act.put, List.setIfInBounds_toArray, List.set_cons_zero, List.set_cons_succ])
              refine wpAnyH_take (i := 6) (oi := ?oi20) (v := ?v20) ?hi20 (by kernel_rfl) (by kernel_rfl) (by kernel_rfl) (fun _ _ _ h => h) ?hy20 hHeld ?re20
              case hi20 => (simp only [List.getElem?_toArray, List.getElem?_cons_succ, List.getElem?_cons_zero]; rfl)
              case hy20 =>
                refine Or.inl ⟨by rfl, ?_⟩
                intro wq hSw
                go_split_ands
                go_simp
                try with_reducible rfl
              (try simp only [Act.put, List.setIfInBounds_toArray, List.set_cons_zero, List.set_cons_succ])
              refine wpAnyH_take (i := 7) (oi := ?oi21) (v := ?v21) ?hi21 (by kernel_rfl) (by kernel_rfl) (by kernel_rfl) (fun _ _ _ h => h) ?hy21 hHeld ?re21
              case hi21 => (simp only [List.getElem?_toArray, List.getElem?_cons_succ, List.getElem?_cons_zero]; rfl)
              case hy21 =>
                refine Or.inl ⟨by rfl, ?_⟩
                intro wq hSw
                go_split_ands
                go_simp
                try with_reducible rfl
              (try simp only [Act.put, List.setIfInBounds_toArray, List.set_cons_zero, List.set_cons_succ])
              refine wpAnyH_take (i := 8) (oi := ?oi22) (v := ?v22) ?hi22 (by kernel_rfl) (by kernel_rfl) (by kernel_rfl) (fun _ _ _ h => h) ?hy22 hHeld ?re22
              case hi22 => (simp only [List.getElem?_toArray, List.getElem?_cons_succ, List.getElem?_cons_zero]; rfl)
              case hy22 =>
                refine Or.inl ⟨by rfl, ?_⟩
                intro wq hSw
                go_split_ands
                go_simp
                try with_reducible rfl
              (try simp only [Act.put, List.setIfInBounds_toArray, List.set_cons_zero, List.set_cons_succ])
              refine wpAnyH_take (i := 9) (oi := ?oi23) (v := ?v23) ?hi23 (by kernel_rfl) (by kernel_rfl) (by kernel_rfl) (fun _ _ _ h => h) ?hy23 hHeld ?re23
              case hi23 => (simp only [List.getElem?_toArray, List.getElem?_cons_succ, List.getElem?_cons_zero]; rfl)
              case hy23 =>
                refine Or.inl ⟨by rfl, ?_⟩
                intro wq hSw
                go_split_ands
                go_simp
                try with_reducible rfl
              (try simp only [Act.put, List.setIfInBounds_toArray, List.set_cons_zero, List.set_cons_succ])
              refine wpAnyH_ready (rs := [10]) (by kernel_rfl) (by simp) ?_
              refine AllReadyH.cons (o := ?o24) ?ho24 (fun K hK => ?st24) AllReadyH.nil
              case ho24 => (simp only [List.getElem?_toArray, List.getElem?_cons_succ, List.getElem?_cons_zero]; rfl)
              case st24 =>
                go_simp
                refine hK.out _ _ (hY7.alloc _).c5 (fun hHeld => ?_)
                clear hK K
                (try simp only [Act.put, List.setIfInBounds_toArray, List.set_cons_zero, List.set_cons_succ])
                refine wpAnyH_ready (rs := [11]) (by kernel_rfl) (by simp) ?_
                refine AllReadyH.cons (o := ?o25) ?ho25 (fun K hK => ?st25) AllReadyH.nil
                case ho25 => (simp only [List.getElem?_toArray, List.getElem?_cons_succ, List.getElem?_cons_zero]; rfl)
                case st25 =>
                  refine step_append_out w1.heap.size rfl (.tmp 65) (.tmp 75) rfl (.slice A m C) (acc.map (stmOf s)) m hml from_ y.tp (s.extract (from_).toNat y.tp.toNat) rfl rfl hO7 hsz7 hml2 ?_
                  intro g3 cap3 w3 hO3 hg3
                  have hY3 : IsT w3 wr.heap.size y := (hg3.block wr.heap.size hY7.lt (fun he => hOb _ he.symm rfl)).trans hY7
                  have hB3 : Below w1.heap.size w1 w3 := hB7.grown hg3 hB7.size (fun k hk => hO7.own k hk)
                  refine hK.out _ _ hY3.c5 (fun hHeld => ?_)
                  clear hK K
                  (try simp only [Act.put, List.setIfInBounds_toArray, List.set_cons_zero, List.set_cons_succ])
                  refine wpAnyH_take (i := 12) (oi := ?oi26) (v := ?v26) ?hi26 (by kernel_rfl) (by kernel_rfl) (by kernel_rfl) (fun _ _ _ h => h) ?hy26 hHeld ?re26
                  case hi26 => (simp only [List.getElem?_toArray, List.getElem?_cons_succ, List.getElem?_cons_zero]; rfl)
                  case hy26 =>
                    refine Or.inl ⟨by rfl, ?_⟩
                    intro wq hSw
                    go_split_ands
                    go_simp
                    try with_reducible rfl
                  (try simp only [Act.put, List.setIfInBounds_toArray, List.set_cons_zero, List.set_cons_succ])
                  refine wpAnyH_done (by kernel_rfl) ?_ _
                  refine NoPanic.normal ?_
                  go_wp2
                  go_roundg (l.length - i)
                  case measure => have := HA.out; omega
                  case rel => exact ⟨i + 1, _, from_, false, acc ++ [(from_, y.tp)], t.e, by congr 1, rfl, rfl, rfl, ⟨by omega⟩, HI.app hti HSS.out (by omega) (by omega) hB3 hO3⟩
            · have hks : (y.kind.toList == [59]) = false := by rw [kd_semi, HK1.out]; exact decide_eq_false hkd.1
              have hke : (y.kind.toList == [60, 101, 111, 102, 62]) = false := by have h5 := kd_eof y.kind.toList; unfold kEof at h5; rw [h5, HK1.out]; exact decide_eq_false hkd.2
              have hkn : (y.kind.toList != [60, 101, 111, 102, 62]) = true := by simp only [bne, hke]; rfl
              have HKD := Aside0.mk hkd
              clear hkd
              have HSS : Aside0 (stmts from_ true (t :: ts) = stmts from_ true ts) := ⟨by
                simp only [stmts]
                rw [if_neg (by decide), if_neg (by intro h5; rcases h5 with h5 | h5; exact HKD.out.1 h5; exact HKD.out.2 h5)]⟩
              go_wp2
              go_roundg (l.length - i)
              case measure => have := HA.out; omega
              case rel => exact ⟨i + 1, _, from_, true, acc, t.e, by congr 1, rfl, rfl, rfl, ⟨by omega⟩, HI.skip hti HSS.out (by omega) (by omega) (HBW.out _) (HOW.out _)⟩
          | false =>
            rcases hkd3 with hkd | hkd | hkd
            · have hks : (y.kind.toList == [59]) = true := by rw [kd_semi, HK1.out]; exact decide_eq_true hkd
              have hke : (y.kind.toList == [60, 101, 111, 102, 62]) = false := by have h5 := kd_eof y.kind.toList; unfold kEof at h5; rw [h5, HK1.out]; exact decide_eq_false (by rw [hkd]; decide)
              have hkn : (y.kind.toList != [60, 101, 111, 102, 62]) = true := by simp only [bne, hke]; rfl
              have HKD := Aside0.mk hkd
              clear hkd
              have HSS : Aside0 (stmts from_ false (t :: ts) = (y.tp, y.tp) :: stmts y.tp false ts) := ⟨by
                simp only [stmts]
                rw [if_pos (by trivial), if_neg (fun h5 => by have := h5.1; rw [HKD.out] at this; cases this), if_pos (by rw [HKD.out]; simp), HCM.out, Option.getD_none, ← HK2.out]⟩
              go_wp2
              refine wp_any ?_
              intro w7 hw7
              have hY7 : IsT w7 wr.heap.size y := by rw [hw7]; exact HYW.out
              have hB7 : Below w1.heap.size w1 w7 := by rw [hw7]; exact HBW.out _
              have hO7 : ORow w7 w1.heap.size (.slice A m C) (acc.map (stmOf s)) := by rw [hw7]; exact HOW.out _
              clear hw7
              have hsz7 : w1.heap.size ≤ w7.heap.size := hB7.size
              have hOb : ∀ k, (Value.slice A m C).ownBlock = some k → k ≠ wr.heap.size := hOw'
              refine wp_region_noPanic ?_
              refine wp_region_held_drew (S := fun W => W.cell? ⟨wr.heap.size, 5, none⟩ = some (.int .i64 y.tp)) (by kernel_rfl) hY7.c5 (fun hHeld => ?_)
              refine wpAnyH_take (i := 0) (oi := ?oi27) (v := ?v27) ?hi27 (by kernel_rfl) (by kernel_rfl) (by kernel_rfl) (fun _ _ _ h => h) ?hy27 hHeld ?re27
              case hi27 => (simp only [List.getElem?_toArray, List.getElem?_cons_zero]; rfl)
              case hy27 =>
                refine Or.inl ⟨by rfl, ?_⟩
                intro wq hSw
                go_split_ands
                go_simp
                try with_reducible rfl
              (try simp only [Act.put, List.setIfInBounds_toArray, List.set_cons_zero, List.set_cons_succ])
              refine wpAnyH_take (i := 1) (oi := ?oi28) (v := ?v28) ?hi28 (by kernel_rfl) (by kernel_rfl) (by kernel_rfl) (fun _ _ _ h => h) ?hy28 hHeld ?re28
              case hi28 => (simp only [List.getElem?_toArray, List.getElem?_cons_succ, List.getElem?_cons_zero]; rfl)
              case hy28 =>
                refine Or.inl ⟨by rfl, ?_⟩
                intro wq hSw
                go_split_ands
                go_simp
                try with_reducible rfl
              (try simp only [Act.put, List.setIfInBounds_toArray, List.set_cons_zero, List.set_cons_succ])
              refine wpAnyH_take (i := 2) (oi := ?oi29) (v := ?v29) ?hi29 (by kernel_rfl) (by kernel_rfl) (by kernel_rfl) (fun _ _ _ h => h) ?hy29 hHeld ?re29
              case hi29 => (simp only [List.getElem?_toArray, List.getElem?_cons_succ, List.getElem?_cons_zero]; rfl)
              case hy29 =>
                refine Or.inl ⟨by rfl, ?_⟩
                intro wq hSw
                go_split_ands
                go_simp
                try with_reducible rfl
              (try simp only [Act.put, List.setIfInBounds_toArray, List.set_cons_zero, List.set_cons_succ])
              refine wpAnyH_take (i := 3) (oi := ?oi30) (v := ?v30) ?hi30 (by kernel_rfl) (by kernel_rfl) (by kernel_rfl) (fun _ _ _ h => h) ?hy30 hHeld ?re30
              case hi30 => (simp only [List.getElem?_toArray, List.getElem?_cons_succ, List.getElem?_cons_zero]; rfl)
              case hy30 =>
                refine Or.inl ⟨by rfl, ?_⟩
                intro wq hSw
                go_split_ands
                go_simp
                try with_reducible rfl
              (try simp only [Act.put, List.setIfInBounds_toArray, List.set_cons_zero, List.set_cons_succ])
              refine wpAnyH_take (i := 4) (oi := ?oi31) (v := ?v31) ?hi31 (by kernel_rfl) (by kernel_rfl) (by kernel_rfl) (fun _ _ _ h => h) ?hy31 hHeld ?re31
              case hi31 => (simp only [List.getElem?_toArray, List.getElem?_cons_succ, List.getElem?_cons_zero]; rfl)
              case hy31 =>
                refine Or.inl ⟨by rfl, ?_⟩
                intro wq hSw
                go_split_ands
                go_simp
                try with_reducible rfl
              (try simp only [Act.put, List.setIfInBounds_toArray, List.set_cons_zero, List.set_cons_succ])
              refine wpAnyH_take (i := 5) (oi := ?oi32) (v := ?v32) ?hi32 (by kernel_rfl) (by kernel_rfl) (by kernel_rfl) (fun _ _ _ h => h) ?hy32 hHeld ?re32
              case hi32 => (simp only [List.getElem?_toArray, List.getElem?_cons_succ, List.getElem?_cons_zero]; rfl)
              case hy32 =>
                refine Or.inl ⟨by rfl, ?_⟩
                intro wq hSw
                go_split_ands
                go_simp
                try with_reducible rfl
              (try simp only [Act.put, List.setIfInBounds_toArray, List.set_cons_zero, List.set_cons_succ])
              refine wpAnyH_take (i := 6) (oi := ?oi33) (v := ?v33) ?hi33 (by kernel_rfl) (by kernel_rfl) (by kernel_rfl) (fun _ _ _ h => h) ?hy33 hHeld ?re33
              case hi33 => (simp only [List.getElem?_toArray, List.getElem?_cons_succ, List.getElem?_cons_zero]; rfl)
              case hy33 =>
                refine Or.inl ⟨by rfl, ?_⟩
                intro wq hSw
                go_split_ands
                go_simp
                try with_reducible rfl
              (try simp only [Act.put, List.setIfInBounds_toArray, List.set_cons_zero, List.set_cons_succ])
              refine wpAnyH_take (i := 7) (oi := ?oi34) (v := ?v34) ?hi34 (by kernel_rfl) (by kernel_rfl) (by kernel_rfl) (fun _ _ _ h => h) ?hy34 hHeld ?re34
              case hi34 => (simp only [List.getElem?_toArray, List.getElem?_cons_succ, List.getElem?_cons_zero]; rfl)
              case hy34 =>
                refine Or.inl ⟨by rfl, ?_⟩
                intro wq hSw
                go_split_ands
                go_simp
                try with_reducible rfl
              (try simp only [Act.put, List.setIfInBounds_toArray, List.set_cons_zero, List.set_cons_succ])
              refine wpAnyH_take (i := 8) (oi := ?oi35) (v := ?v35) ?hi35 (by kernel_rfl) (by kernel_rfl) (by kernel_rfl) (fun _ _ _ h => h) ?hy35 hHeld ?re35
              case hi35 => (simp only [List.getElem?_toArray, List.getElem?_cons_succ, List.getElem?_cons_zero]; rfl)
              case hy35 =>
                refine Or.inl ⟨by rfl, ?_⟩
                intro wq hSw
                go_split_ands
                go_simp
                try with_reducible rfl
              (try simp only [Act.put, List.setIfInBounds_toArray, List.set_cons_zero, List.set_cons_succ])
              refine wpAnyH_take (i := 9) (oi := ?oi36) (v := ?v36) ?hi36 (by kernel_rfl) (by kernel_rfl) (by kernel_rfl) (fun _ _ _ h => h) ?hy36 hHeld ?re36
              case hi36 => (simp only [List.getElem?_toArray, List.getElem?_cons_succ, List.getElem?_cons_zero]; rfl)
              case hy36 =>
                refine Or.inl ⟨by rfl, ?_⟩
                intro wq hSw
                go_split_ands
                go_simp
                try with_reducible rfl
              (try simp only [Act.put, List.setIfInBounds_toArray, List.set_cons_zero, List.set_cons_succ])
              refine wpAnyH_ready (rs := [10]) (by kernel_rfl) (by simp) ?_
              refine AllReadyH.cons (o := ?o37) ?ho37 (fun K hK => ?st37) AllReadyH.nil
              case ho37 => (simp only [List.getElem?_toArray, List.getElem?_cons_succ, List.getElem?_cons_zero]; rfl)
              case st37 =>
                go_simp
                refine hK.out _ _ (hY7.alloc _).c5 (fun hHeld => ?_)
                clear hK K
                (try simp only [Act.put, List.setIfInBounds_toArray, List.set_cons_zero, List.set_cons_succ])
                refine wpAnyH_ready (rs := [11]) (by kernel_rfl) (by simp) ?_
                refine AllReadyH.cons (o := ?o38) ?ho38 (fun K hK => ?st38) AllReadyH.nil
                case ho38 => (simp only [List.getElem?_toArray, List.getElem?_cons_succ, List.getElem?_cons_zero]; rfl)
                case st38 =>
                  refine step_append_out w1.heap.size rfl (.tmp 65) (.tmp 75) rfl (.slice A m C) (acc.map (stmOf s)) m hml y.tp y.tp ByteArray.empty rfl rfl hO7 hsz7 hml2 ?_
                  intro g3 cap3 w3 hO3 hg3
                  have hY3 : IsT w3 wr.heap.size y := (hg3.block wr.heap.size hY7.lt (fun he => hOb _ he.symm rfl)).trans hY7
                  have hB3 : Below w1.heap.size w1 w3 := hB7.grown hg3 hB7.size (fun k hk => hO7.own k hk)
                  refine hK.out _ _ hY3.c5 (fun hHeld => ?_)
                  clear hK K
                  (try simp only [Act.put, List.setIfInBounds_toArray, List.set_cons_zero, List.set_cons_succ])
                  refine wpAnyH_take (i := 12) (oi := ?oi39) (v := ?v39) ?hi39 (by kernel_rfl) (by kernel_rfl) (by kernel_rfl) (fun _ _ _ h => h) ?hy39 hHeld ?re39
                  case hi39 => (simp only [List.getElem?_toArray, List.getElem?_cons_succ, List.getElem?_cons_zero]; rfl)
                  case hy39 =>
                    refine Or.inl ⟨by rfl, ?_⟩
                    intro wq hSw
                    go_split_ands
                    go_simp
                    try with_reducible rfl
                  (try simp only [Act.put, List.setIfInBounds_toArray, List.set_cons_zero, List.set_cons_succ])
                  refine wpAnyH_done (by kernel_rfl) ?_ _
                  refine NoPanic.normal ?_
                  go_wp2
                  go_roundg (l.length - i)
                  case measure => have := HA.out; omega
                  case rel => exact ⟨i + 1, _, y.tp, false, acc ++ [(y.tp, y.tp)], t.e, by congr 1, rfl, rfl, rfl, ⟨by omega⟩, HI.app hti HSS.out (by omega) (by omega) hB3 (by have h5 := hO3; rw [← ext_same s y.tp.toNat] at h5; exact h5)⟩
            · have hks : (y.kind.toList == [59]) = false := by rw [kd_semi, HK1.out]; exact decide_eq_false (by rw [hkd]; decide)
              have hke : (y.kind.toList == [60, 101, 111, 102, 62]) = true := by have h5 := kd_eof y.kind.toList; unfold kEof at h5; rw [h5, HK1.out]; exact decide_eq_true hkd
              have hkn : (y.kind.toList != [60, 101, 111, 102, 62]) = false := by simp only [bne, hke]; rfl
              have HKD := Aside0.mk hkd
              clear hkd
              have HSS : Aside0 (stmts from_ false (t :: ts) = stmts from_ false ts) := ⟨by
                simp only [stmts]
                rw [if_pos (by trivial), if_pos ⟨HKD.out, HCM.out⟩, HE.out HKD.out]; rfl⟩
              go_wp2
              go_roundg (l.length - i)
              case measure => have := HA.out; omega
              case rel => exact ⟨i + 1, _, from_, false, acc, t.e, by congr 1, rfl, rfl, rfl, ⟨by omega⟩, HI.skip hti HSS.out (by omega) (by omega) (HBW.out _) (HOW.out _)⟩
            · have hks : (y.kind.toList == [59]) = false := by rw [kd_semi, HK1.out]; exact decide_eq_false hkd.1
              have hke : (y.kind.toList == [60, 101, 111, 102, 62]) = false := by have h5 := kd_eof y.kind.toList; unfold kEof at h5; rw [h5, HK1.out]; exact decide_eq_false hkd.2
              have hkn : (y.kind.toList != [60, 101, 111, 102, 62]) = true := by simp only [bne, hke]; rfl
              have HKD := Aside0.mk hkd
              clear hkd
              have HSS : Aside0 (stmts from_ false (t :: ts) = stmts y.tp true ts) := ⟨by
                simp only [stmts]
                rw [if_pos (by trivial), if_neg (fun h5 => HKD.out.2 h5.1), if_neg (by intro h5; rcases h5 with h5 | h5; exact HKD.out.1 h5; exact HKD.out.2 h5), HCM.out, Option.getD_none, ← HK2.out]⟩
              go_wp2
              go_roundg (l.length - i)
              case measure => have := HA.out; omega
              case rel => exact ⟨i + 1, _, y.tp, true, acc, t.e, by congr 1, rfl, rfl, rfl, ⟨by omega⟩, HI.skip hti HSS.out (by omega) (by omega) (HBW.out _) (HOW.out _)⟩
        | some c0 =>
          have HCM := Aside0.mk hcm
          rw [hcm] at hCm hp3 hp4
          simp only [Option.getD_some] at hp3 hp4
          clear hcm
          obtain ⟨gc, nc, capc, hyc, hc2⟩ := hCm.first
          have hc3 : wr.cell? ⟨gc, 2, none⟩ = some (.int .i64 c0) := (hBr.cell (World.block_lt_of_cell? _ _ hc2)).trans hc2
          rw [hyc] at q7
          have HYW : Aside0 (IsT (wr.alloc (.cells #[.string y.kind, .string y.sp, .string y.raw, .string y.txt, .int .i64 y.base, .int .i64 y.tp, .int .i64 y.te, .slice (some ⟨gc, 0, none⟩) (nc + 1) capc] 45)) wr.heap.size y) := ⟨by unfold IsT Tt.cells; rw [hyc]; exact heap_alloc_new wr _⟩
          have hc4 : ∀ o, (wr.alloc o).cell? ⟨gc, 2, none⟩ = some (.int .i64 c0) := fun o => (World.cell?_alloc_lt _ _ _ (World.block_lt_of_cell? _ _ hc3)).trans hc3
          clear hyc
          have hn1 : decide ((0 : Int) < (nc : Int) + 1) = true := decide_eq_true (by omega)
          have cc0 : 0 ≤ c0 := by omega
          have cc1 : c0 ≤ y.tp := by have := HK2.out; omega
          have cce : c0 ≤ t.e := by omega
          cases opn with
          | true =>
            rcases hkd3 with hkd | hkd | hkd
            · have hks : (y.kind.toList == [59]) = true := by rw [kd_semi, HK1.out]; exact decide_eq_true hkd
              have hke : (y.kind.toList == [60, 101, 111, 102, 62]) = false := by have h5 := kd_eof y.kind.toList; unfold kEof at h5; rw [h5, HK1.out]; exact decide_eq_false (by rw [hkd]; decide)
              have hkn : (y.kind.toList != [60, 101, 111, 102, 62]) = true := by simp only [bne, hke]; rfl
              have HKD := Aside0.mk hkd
              clear hkd
              have HSS : Aside0 (stmts from_ true (t :: ts) = (from_, y.tp) :: stmts from_ false ts) := ⟨by
                simp only [stmts]
                rw [if_neg (by decide), if_pos (by rw [HKD.out]; simp), ← HK2.out]⟩
              go_wp2
              refine wp_any ?_
              intro w7 hw7
              have hY7 : IsT w7 wr.heap.size y := by rw [hw7]; exact HYW.out
              have hB7 : Below w1.heap.size w1 w7 := by rw [hw7]; exact HBW.out _
              have hO7 : ORow w7 w1.heap.size (.slice A m C) (acc.map (stmOf s)) := by rw [hw7]; exact HOW.out _
              clear hw7
              have hsz7 : w1.heap.size ≤ w7.heap.size := hB7.size
              have hOb : ∀ k, (Value.slice A m C).ownBlock = some k → k ≠ wr.heap.size := hOw'
              refine wp_region_noPanic ?_
              refine wp_region_held_drew (S := fun W => W.cell? ⟨wr.heap.size, 5, none⟩ = some (.int .i64 y.tp)) (by kernel_rfl) hY7.c5 (fun hHeld => ?_)
              refine wpAnyH_take (i := 0) (oi := ?oi40) (v := ?v40) ?hi40 (by kernel_rfl) (by kernel_rfl) (by kernel_rfl) (fun _ _ _ h => h) ?hy40 hHeld ?re40
              case hi40 => (simp only [List.getElem?_toArray, List.getElem?_cons_zero]; rfl)
              case hy40 =>
                refine Or.inl ⟨by rfl, ?_⟩
                intro wq hSw
                go_split_ands
                go_simp
                try with_reducible rfl
              (try simp only [Act.put, List.setIfInBounds_toArray, List.set_cons_zero, List.set_cons_succ])
              refine wpAnyH_take (i := 1) (oi := ?oi41) (v := ?v41) ?hi41 (by kernel_rfl) (by kernel_rfl) (by kernel_rfl) (fun _ _ _ h => h) ?hy41 hHeld ?re41
              case hi41 => (simp only [List.getElem?_toArray, List.getElem?_cons_succ, List.getElem?_cons_zero]; rfl)
              case hy41 =>
                refine Or.inl ⟨by rfl, ?_⟩
                intro wq hSw
                go_split_ands
                go_simp
                try with_reducible rfl
              (try simp only [Act.put, List.setIfInBounds_toArray, List.set_cons_zero, List.set_cons_succ])
              refine wpAnyH_take (i := 2) (oi := ?oi42) (v := ?v42) ?hi42 (by kernel_rfl) (by kernel_rfl) (by kernel_rfl) (fun _ _ _ h => h) ?hy42 hHeld ?re42
              case hi42 => (simp only [List.getElem?_toArray, List.getElem?_cons_succ, List.getElem?_cons_zero]; rfl)
              case hy42 =>
                refine Or.inl ⟨by rfl, ?_⟩
                intro wq hSw
                go_split_ands
                go_simp
                try with_reducible rfl
              (try simp only [Act.put, List.setIfInBounds_toArray, List.set_cons_zero, List.set_cons_succ])
              refine wpAnyH_take (i := 3) (oi := ?oi43) (v := ?v43) ?hi43 (by kernel_rfl) (by kernel_rfl) (by kernel_rfl) (fun _ _ _ h => h) ?hy43 hHeld ?re43
              case hi43 => (simp only [List.getElem?_toArray, List.getElem?_cons_succ, List.getElem?_cons_zero]; rfl)
              case hy43 =>
                refine Or.inl ⟨by rfl, ?_⟩
                intro wq hSw
                go_split_ands
                go_simp
                try with_reducible rfl
              (try simp only [Act.put, List.setIfInBounds_toArray, List.set_cons_zero, List.set_cons_succ])
              refine wpAnyH_take (i := 4) (oi := ?oi44) (v := ?v44) ?hi44 (by kernel_rfl) (by kernel_rfl) (by kernel_rfl) (fun _ _ _ h => h) ?hy44 hHeld ?re44
              case hi44 => (simp only [List.getElem?_toArray, List.getElem?_cons_succ, List.getElem?_cons_zero]; rfl)
              case hy44 =>
                refine Or.inl ⟨by rfl, ?_⟩
                intro wq hSw
                go_split_ands
                go_simp
                try with_reducible rfl
              (try simp only [Act.put, List.setIfInBounds_toArray, List.set_cons_zero, List.set_cons_succ])
              refine wpAnyH_take (i := 5) (oi := ?oi45) (v := ?v45) ?hi45 (by kernel_rfl) (by kernel_rfl) (by kernel_rfl) (fun _ _ _ h => h) ?hy45 hHeld ?re45
              case hi45 => (simp only [List.getElem?_toArray, List.getElem?_cons_succ, List.getElem?_cons_zero]; rfl)
              case hy45 =>
                refine Or.inl ⟨by rfl, ?_⟩
                intro wq hSw
                go_split_ands
                go_simp
                try with_reducible rfl
              (try simp only [Act.put, List.setIfInBounds_toArray, List.set_cons_zero, List.set_cons_succ])
              refine wpAnyH_take (i := 6) (oi := ?oi46) (v := ?v46) ?hi46 (by kernel_rfl) (by kernel_rfl) (by kernel_rfl) (fun _ _ _ h => h) ?hy46 hHeld ?re46
              case hi46 => (simp only [List.getElem?_toArray, List.getElem?_cons_succ, List.getElem?_cons_zero]; rfl)
              case hy46 =>
                refine Or.inl ⟨by rfl, ?_⟩
                intro wq hSw
                go_split_ands
                go_simp
                try with_reducible rfl
              (try simp only [Act.put, List.setIfInBounds_toArray, List.set_cons_zero, List.set_cons_succ])
              refine wpAnyH_take (i := 7) (oi := ?oi47) (v := ?v47) ?hi47 (by kernel_rfl) (by kernel_rfl) (by kernel_rfl) (fun _ _ _ h => h) ?hy47 hHeld ?re47
              case hi47 => (simp only [List.getElem?_toArray, List.getElem?_cons_succ, List.getElem?_cons_zero]; rfl)
              case hy47 =>
                refine Or.inl ⟨by rfl, ?_⟩
                intro wq hSw
                go_split_ands
                go_simp
                try with_reducible rfl
              (try simp only [Act.put, List.setIfInBounds_toArray, List.set_cons_zero, List.set_cons_succ])
              refine wpAnyH_take (i := 8) (oi := ?oi48) (v := ?v48) ?hi48 (by kernel_rfl) (by kernel_rfl) (by kernel_rfl) (fun _ _ _ h => h) ?hy48 hHeld ?re48
              case hi48 => (simp only [List.getElem?_toArray, List.getElem?_cons_succ, List.getElem?_cons_zero]; rfl)
              case hy48 =>
                refine Or.inl ⟨by rfl, ?_⟩
                intro wq hSw
                go_split_ands
                go_simp
                try with_reducible rfl
              (try simp only [Act.put, List.setIfInBounds_toArray, List.set_cons_zero, List.set_cons_succ])
              refine wpAnyH_take (i := 9) (oi := ?oi49) (v := ?v49) ?hi49 (by kernel_rfl) (by kernel_rfl) (by kernel_rfl) (fun _ _ _ h => h) ?hy49 hHeld ?re49
              case hi49 => (simp only [List.getElem?_toArray, List.getElem?_cons_succ, List.getElem?_cons_zero]; rfl)
              case hy49 =>
                refine Or.inl ⟨by rfl, ?_⟩
                intro wq hSw
                go_split_ands
                go_simp
                try with_reducible rfl
              (try simp only [Act.put, List.setIfInBounds_toArray, List.set_cons_zero, List.set_cons_succ])
              refine wpAnyH_ready (rs := [10]) (by kernel_rfl) (by simp) ?_
              refine AllReadyH.cons (o := ?o50) ?ho50 (fun K hK => ?st50) AllReadyH.nil
              case ho50 => (simp only [List.getElem?_toArray, List.getElem?_cons_succ, List.getElem?_cons_zero]; rfl)
              case st50 =>
                go_simp
                refine hK.out _ _ (hY7.alloc _).c5 (fun hHeld => ?_)
                clear hK K
                (try simp only [Act.put, List.setIfInBounds_toArray, List.set_cons_zero, List.set_cons_succ])
                refine wpAnyH_ready (rs := [11]) (by kernel_rfl) (by simp) ?_
                refine AllReadyH.cons (o := ?o51) ?ho51 (fun K hK => ?st51) AllReadyH.nil
                case ho51 => (simp only [List.getElem?_toArray, List.getElem?_cons_succ, List.getElem?_cons_zero]; rfl)
                case st51 =>
                  refine step_append_out w1.heap.size rfl (.tmp 65) (.tmp 75) rfl (.slice A m C) (acc.map (stmOf s)) m hml from_ y.tp (s.extract (from_).toNat y.tp.toNat) rfl rfl hO7 hsz7 hml2 ?_
                  intro g3 cap3 w3 hO3 hg3
                  have hY3 : IsT w3 wr.heap.size y := (hg3.block wr.heap.size hY7.lt (fun he => hOb _ he.symm rfl)).trans hY7
                  have hB3 : Below w1.heap.size w1 w3 := hB7.grown hg3 hB7.size (fun k hk => hO7.own k hk)
                  refine hK.out _ _ hY3.c5 (fun hHeld => ?_)
                  clear hK K
                  (try simp only [Act.put, List.setIfInBounds_toArray, List.set_cons_zero, List.set_cons_succ])
                  refine wpAnyH_take (i := 12) (oi := ?oi52) (v := ?v52) ?hi52 (by kernel_rfl) (by kernel_rfl) (by kernel_rfl) (fun _ _ _ h => h) ?hy52 hHeld ?re52
                  case hi52 => (simp only [List.getElem?_toArray, List.getElem?_cons_succ, List.getElem?_cons_zero]; rfl)
                  case hy52 =>
                    refine Or.inl ⟨by rfl, ?_⟩
                    intro wq hSw
                    go_split_ands
                    go_simp
                    try with_reducible rfl
                  (try simp only [Act.put, List.setIfInBounds_toArray, List.set_cons_zero, List.set_cons_succ])
                  refine wpAnyH_done (by kernel_rfl) ?_ _
                  refine NoPanic.normal ?_
                  go_wp2
                  go_roundg (l.length - i)
                  case measure => have := HA.out; omega
                  case rel => exact ⟨i + 1, _, from_, false, acc ++ [(from_, y.tp)], t.e, by congr 1, rfl, rfl, rfl, ⟨by omega⟩, HI.app hti HSS.out (by omega) (by omega) hB3 hO3⟩
            · have hks : (y.kind.toList == [59]) = false := by rw [kd_semi, HK1.out]; exact decide_eq_false (by rw [hkd]; decide)
              have hke : (y.kind.toList == [60, 101, 111, 102, 62]) = true := by have h5 := kd_eof y.kind.toList; unfold kEof at h5; rw [h5, HK1.out]; exact decide_eq_true hkd
              have hkn : (y.kind.toList != [60, 101, 111, 102, 62]) = false := by simp only [bne, hke]; rfl
              have HKD := Aside0.mk hkd
              clear hkd
              have HSS : Aside0 (stmts from_ true (t :: ts) = (from_, y.tp) :: stmts from_ false ts) := ⟨by
                simp only [stmts]
                rw [if_neg (by decide), if_pos (by rw [HKD.out]; simp), ← HK2.out]⟩
              go_wp2
              refine wp_any ?_
              intro w7 hw7
              have hY7 : IsT w7 wr.heap.size y := by rw [hw7]; exact HYW.out
              have hB7 : Below w1.heap.size w1 w7 := by rw [hw7]; exact HBW.out _
              have hO7 : ORow w7 w1.heap.size (.slice A m C) (acc.map (stmOf s)) := by rw [hw7]; exact HOW.out _
              clear hw7
              have hsz7 : w1.heap.size ≤ w7.heap.size := hB7.size
              have hOb : ∀ k, (Value.slice A m C).ownBlock = some k → k ≠ wr.heap.size := hOw'
              refine wp_region_noPanic ?_
              refine wp_region_held_drew (S := fun W => W.cell? ⟨wr.heap.size, 5, none⟩ = some (.int .i64 y.tp)) (by kernel_rfl) hY7.c5 (fun hHeld => ?_)
              refine wpAnyH_take (i := 0) (oi := ?oi53) (v := ?v53) ?hi53 (by kernel_rfl) (by kernel_rfl) (by kernel_rfl) (fun _ _ _ h => h) ?hy53 hHeld ?re53
              case hi53 => (simp only [List.getElem?_toArray, List.getElem?_cons_zero]; rfl)
              case hy53 =>
                refine Or.inl ⟨by rfl, ?_⟩
                intro wq hSw
                go_split_ands
                go_simp
                try with_reducible rfl
              (try simp only [Act.put, List.setIfInBounds_toArray, List.set_cons_zero, List.set_cons_succ])
              refine wpAnyH_take (i := 1) (oi := ?oi54) (v := ?v54) ?hi54 (by kernel_rfl) (by kernel_rfl) (by kernel_rfl) (fun _ _ _ h => h) ?hy54 hHeld ?re54
              case hi54 => (simp only [List.getElem?_toArray, List.getElem?_cons_succ, List.getElem?_cons_zero]; rfl)
              case hy54 =>
                refine Or.inl ⟨by rfl, ?_⟩
                intro wq hSw
                go_split_ands
                go_simp
                try with_reducible rfl
              (try simp only [Act.put, List.setIfInBounds_toArray, List.set_cons_zero, List.set_cons_succ])
              refine wpAnyH_take (i := 2) (oi := ?oi55) (v := ?v55) ?hi55 (by kernel_rfl) (by kernel_rfl) (by kernel_rfl) (fun _ _ _ h => h) ?hy55 hHeld ?re55
              case hi55 => (simp only [List.getElem?_toArray, List.getElem?_cons_succ, List.getElem?_cons_zero]; rfl)
              case hy55 =>
                refine Or.inl ⟨by rfl, ?_⟩
                intro wq hSw
                go_split_ands
                go_simp
                try with_reducible rfl
              (try simp only [Act.put, List.setIfInBounds_toArray, List.set_cons_zero, List.set_cons_succ])
              refine wpAnyH_take (i := 3) (oi := ?oi56) (v := ?v56) ?hi56 (by kernel_rfl) (by kernel_rfl) (by kernel_rfl) (fun _ _ _ h => h) ?hy56 hHeld ?re56
              case hi56 => (simp only [List.getElem?_toArray, List.getElem?_cons_succ, List.getElem?_cons_zero]; rfl)
              case hy56 =>
                refine Or.inl ⟨by rfl, ?_⟩
                intro wq hSw
                go_split_ands
                go_simp
                try with_reducible rfl
              (try simp only [Act.put, List.setIfInBounds_toArray, List.set_cons_zero, List.set_cons_succ])
              refine wpAnyH_take (i := 4) (oi := ?oi57) (v := ?v57) ?hi57 (by kernel_rfl) (by kernel_rfl) (by kernel_rfl) (fun _ _ _ h => h) ?hy57 hHeld ?re57
              case hi57 => (simp only [List.getElem?_toArray, List.getElem?_cons_succ, List.getElem?_cons_zero]; rfl)
              case hy57 =>
                refine Or.inl ⟨by rfl, ?_⟩
                intro wq hSw
                go_split_ands
                go_simp
                try with_reducible rfl
              (try simp only [Act.put, List.setIfInBounds_toArray, List.set_cons_zero, List.set_cons_succ])
              refine wpAnyH_take (i := 5) (oi := ?oi58) (v := ?v58) ?hi58 (by kernel_rfl) (by kernel_rfl) (by kernel_rfl) (fun _ _ _ h => h) ?hy58 hHeld ?re58
              case hi58 => (simp only [List.getElem?_toArray, List.getElem?_cons_succ, List.getElem?_cons_zero]; rfl)
              case hy58 =>
                refine Or.inl ⟨by rfl, ?_⟩
                intro wq hSw
                go_split_ands
                go_simp
                try with_reducible rfl
              (try simp only [Act.put, List.setIfInBounds_toArray, List.set_cons_zero, List.set_cons_succ])
              refine wpAnyH_take (i := 6) (oi := ?oi59) (v := ?v59) ?hi59 (by kernel_rfl) (by kernel_rfl) (by kernel_rfl) (fun _ _ _ h => h) ?hy59 hHeld ?re59
              case hi59 => (simp only [List.getElem?_toArray, List.getElem?_cons_succ, List.getElem?_cons_zero]; rfl)
              case hy59 =>
                refine Or.inl ⟨by rfl, ?_⟩
                intro wq hSw
                go_split_ands
                go_simp
                try with_reducible rfl
              (try simp only [Act.put, List.setIfInBounds_toArray, List.set_cons_zero, List.set_cons_succ])
              refine wpAnyH_take (i := 7) (oi := ?oi60) (v := ?v60) ?hi60 (by kernel_rfl) (by kernel_rfl) (by kernel_rfl) (fun _ _ _ h => h) ?hy60 hHeld ?re60
              case hi60 => (simp only [List.getElem?_toArray, List.getElem?_cons_succ, List.getElem?_cons_zero]; rfl)
              case hy60 =>
                refine Or.inl ⟨by rfl, ?_⟩
                intro wq hSw
                go_split_ands
                go_simp
                try with_reducible rfl
              (try simp only [Act.put, List.setIfInBounds_toArray, List.set_cons_zero, List.set_cons_succ])
              refine wpAnyH_take (i := 8) (oi := ?oi61) (v := ?v61) ?hi61 (by kernel_rfl) (by kernel_rfl) (by kernel_rfl) (fun _ _ _ h => h) ?hy61 hHeld ?re61
              case hi61 => (simp only [List.getElem?_toArray, List.getElem?_cons_succ, List.getElem?_cons_zero]; rfl)
              case hy61 =>
                refine Or.inl ⟨by rfl, ?_⟩
                intro wq hSw
                go_split_ands
                go_simp
                try with_reducible rfl
              (try simp only [Act.put, List.setIfInBounds_toArray, List.set_cons_zero, List.set_cons_succ])
              refine wpAnyH_take (i := 9) (oi := ?oi62) (v := ?v62) ?hi62 (by kernel_rfl) (by kernel_rfl) (by kernel_rfl) (fun _ _ _ h => h) ?hy62 hHeld ?re62
              case hi62 => (simp only [List.getElem?_toArray, List.getElem?_cons_succ, List.getElem?_cons_zero]; rfl)
              case hy62 =>
                refine Or.inl ⟨by rfl, ?_⟩
                intro wq hSw
                go_split_ands
                go_simp
                try with_reducible rfl
              (try simp only [Act.put, List.setIfInBounds_toArray, List.set_cons_zero, List.set_cons_succ])
              refine wpAnyH_ready (rs := [10]) (by kernel_rfl) (by simp) ?_
              refine AllReadyH.cons (o := ?o63) ?ho63 (fun K hK => ?st63) AllReadyH.nil
              case ho63 => (simp only [List.getElem?_toArray, List.getElem?_cons_succ, List.getElem?_cons_zero]; rfl)
              case st63 =>
                go_simp
                refine hK.out _ _ (hY7.alloc _).c5 (fun hHeld => ?_)
                clear hK K
                (try simp only [Act.put, List.setIfInBounds_toArray, List.set_cons_zero, List.set_cons_succ])
                refine wpAnyH_ready (rs := [11]) (by kernel_rfl) (by simp) ?_
                refine AllReadyH.cons (o := ?o64) ?ho64 (fun K hK => ?st64) AllReadyH.nil
                case ho64 => (simp only [List.getElem?_toArray, List.getElem?_cons_succ, List.getElem?_cons_zero]; rfl)
                case st64 =>
                  refine step_append_out w1.heap.size rfl (.tmp 65) (.tmp 75) rfl (.slice A m C) (acc.map (stmOf s)) m hml from_ y.tp (s.extract (from_).toNat y.tp.toNat) rfl rfl hO7 hsz7 hml2 ?_
                  intro g3 cap3 w3 hO3 hg3
                  have hY3 : IsT w3 wr.heap.size y := (hg3.block wr.heap.size hY7.lt (fun he => hOb _ he.symm rfl)).trans hY7
                  have hB3 : Below w1.heap.size w1 w3 := hB7.grown hg3 hB7.size (fun k hk => hO7.own k hk)
                  refine hK.out _ _ hY3.c5 (fun hHeld => ?_)
                  clear hK K
                  (try simp only [Act.put, List.setIfInBounds_toArray, List.set_cons_zero, List.set_cons_succ])
                  refine wpAnyH_take (i := 12) (oi := ?oi65) (v := ?v65) ?hi65 (by kernel_rfl) (by kernel_rfl) (by kernel_rfl) (fun _ _ _ h => h) ?hy65 hHeld ?re65
                  case hi65 => (simp only [List.getElem?_toArray, List.getElem?_cons_succ, List.getElem?_cons_zero]; rfl)
                  case hy65 =>
                    refine Or.inl ⟨by rfl, ?_⟩
                    intro wq hSw
                    go_split_ands
                    go_simp
                    try with_reducible rfl
                  (try simp only [Act.put, List.setIfInBounds_toArray, List.set_cons_zero, List.set_cons_succ])
                  refine wpAnyH_done (by kernel_rfl) ?_ _
                  refine NoPanic.normal ?_
                  go_wp2
                  go_roundg (l.length - i)
                  case measure => have := HA.out; omega
                  case rel => exact ⟨i + 1, _, from_, false, acc ++ [(from_, y.tp)], t.e, by congr 1, rfl, rfl, rfl, ⟨by omega⟩, HI.app hti HSS.out (by omega) (by omega) hB3 hO3⟩
            · have hks : (y.kind.toList == [59]) = false := by rw [kd_semi, HK1.out]; exact decide_eq_false hkd.1
              have hke : (y.kind.toList == [60, 101, 111, 102, 62]) = false := by have h5 := kd_eof y.kind.toList; unfold kEof at h5; rw [h5, HK1.out]; exact decide_eq_false hkd.2
              have hkn : (y.kind.toList != [60, 101, 111, 102, 62]) = true := by simp only [bne, hke]; rfl
              have HKD := Aside0.mk hkd
              clear hkd
              have HSS : Aside0 (stmts from_ true (t :: ts) = stmts from_ true ts) := ⟨by
                simp only [stmts]
                rw [if_neg (by decide), if_neg (by intro h5; rcases h5 with h5 | h5; exact HKD.out.1 h5; exact HKD.out.2 h5)]⟩
              go_wp2
              go_roundg (l.length - i)
              case measure => have := HA.out; omega
              case rel => exact ⟨i + 1, _, from_, true, acc, t.e, by congr 1, rfl, rfl, rfl, ⟨by omega⟩, HI.skip hti HSS.out (by omega) (by omega) (HBW.out _) (HOW.out _)⟩
          | false =>
            rcases hkd3 with hkd | hkd | hkd
            · have hks : (y.kind.toList == [59]) = true := by rw [kd_semi, HK1.out]; exact decide_eq_true hkd
              have hke : (y.kind.toList == [60, 101, 111, 102, 62]) = false := by have h5 := kd_eof y.kind.toList; unfold kEof at h5; rw [h5, HK1.out]; exact decide_eq_false (by rw [hkd]; decide)
              have hkn : (y.kind.toList != [60, 101, 111, 102, 62]) = true := by simp only [bne, hke]; rfl
              have HKD := Aside0.mk hkd
              clear hkd
              have HSS : Aside0 (stmts from_ false (t :: ts) = (c0, y.tp) :: stmts c0 false ts) := ⟨by
                simp only [stmts]
                rw [if_pos (by trivial), if_neg (fun h5 => by have := h5.1; rw [HKD.out] at this; cases this), if_pos (by rw [HKD.out]; simp), HCM.out, Option.getD_some, ← HK2.out]⟩
              go_wp2
              refine wp_any ?_
              intro w7 hw7
              have hY7 : IsT w7 wr.heap.size y := by rw [hw7]; exact HYW.out
              have hB7 : Below w1.heap.size w1 w7 := by rw [hw7]; exact HBW.out _
              have hO7 : ORow w7 w1.heap.size (.slice A m C) (acc.map (stmOf s)) := by rw [hw7]; exact HOW.out _
              clear hw7
              have hsz7 : w1.heap.size ≤ w7.heap.size := hB7.size
              have hOb : ∀ k, (Value.slice A m C).ownBlock = some k → k ≠ wr.heap.size := hOw'
              refine wp_region_noPanic ?_
              refine wp_region_held_drew (S := fun W => W.cell? ⟨wr.heap.size, 5, none⟩ = some (.int .i64 y.tp)) (by kernel_rfl) hY7.c5 (fun hHeld => ?_)
              refine wpAnyH_take (i := 0) (oi := ?oi66) (v := ?v66) ?hi66 (by kernel_rfl) (by kernel_rfl) (by kernel_rfl) (fun _ _ _ h => h) ?hy66 hHeld ?re66
              case hi66 => (simp only [List.getElem?_toArray, List.getElem?_cons_zero]; rfl)
              case hy66 =>
                refine Or.inl ⟨by rfl, ?_⟩
                intro wq hSw
                go_split_ands
                go_simp
                try with_reducible rfl
              (try simp only [Act.put, List.setIfInBounds_toArray, List.set_cons_zero, List.set_cons_succ])
              refine wpAnyH_take (i := 1) (oi := ?oi67) (v := ?v67) ?hi67 (by kernel_rfl) (by kernel_rfl) (by kernel_rfl) (fun _ _ _ h => h) ?hy67 hHeld ?re67
              case hi67 => (simp only [List.getElem?_toArray, List.getElem?_cons_succ, List.getElem?_cons_zero]; rfl)
              case hy67 =>
                refine Or.inl ⟨by rfl, ?_⟩
                intro wq hSw
                go_split_ands
                go_simp
                try with_reducible rfl
              (try simp only [Act.put, List.setIfInBounds_toArray, List.set_cons_zero, List.set_cons_succ])
              refine wpAnyH_take (i := 2) (oi := ?oi68) (v := ?v68) ?hi68 (by kernel_rfl) (by kernel_rfl) (by kernel_rfl) (fun _ _ _ h => h) ?hy68 hHeld ?re68
              case hi68 => (simp only [List.getElem?_toArray, List.getElem?_cons_succ, List.getElem?_cons_zero]; rfl)
              case hy68 =>
                refine Or.inl ⟨by rfl, ?_⟩
                intro wq hSw
                go_split_ands
                go_simp
                try with_reducible rfl
              (try simp only [Act.put, List.setIfInBounds_toArray, List.set_cons_zero, List.set_cons_succ])
              refine wpAnyH_take (i := 3) (oi := ?oi69) (v := ?v69) ?hi69 (by kernel_rfl) (by kernel_rfl) (by kernel_rfl) (fun _ _ _ h => h) ?hy69 hHeld ?re69
              case hi69 => (simp only [List.getElem?_toArray, List.getElem?_cons_succ, List.getElem?_cons_zero]; rfl)
              case hy69 =>
                refine Or.inl ⟨by rfl, ?_⟩
                intro wq hSw
                go_split_ands
                go_simp
                try with_reducible rfl
              (try simp only [Act.put, List.setIfInBounds_toArray, List.set_cons_zero, List.set_cons_succ])
              refine wpAnyH_take (i := 4) (oi := ?oi70) (v := ?v70) ?hi70 (by kernel_rfl) (by kernel_rfl) (by kernel_rfl) (fun _ _ _ h => h) ?hy70 hHeld ?re70
              case hi70 => (simp only [List.getElem?_toArray, List.getElem?_cons_succ, List.getElem?_cons_zero]; rfl)
              case hy70 =>
                refine Or.inl ⟨by rfl, ?_⟩
                intro wq hSw
                go_split_ands
                go_simp
                try with_reducible rfl
              (try simp only [Act.put, List.setIfInBounds_toArray, List.set_cons_zero, List.set_cons_succ])
              refine wpAnyH_take (i := 5) (oi := ?oi71) (v := ?v71) ?hi71 (by kernel_rfl) (by kernel_rfl) (by kernel_rfl) (fun _ _ _ h => h) ?hy71 hHeld ?re71
              case hi71 => (simp only [List.getElem?_toArray, List.getElem?_cons_succ, List.getElem?_cons_zero]; rfl)
              case hy71 =>
                refine Or.inl ⟨by rfl, ?_⟩
                intro wq hSw
                go_split_ands
                go_simp
                try with_reducible rfl
              (try simp only [Act.put, List.setIfInBounds_toArray, List.set_cons_zero, List.set_cons_succ])
              refine wpAnyH_take (i := 6) (oi := ?oi72) (v := ?v72) ?hi72 (by kernel_rfl) (by kernel_rfl) (by kernel_rfl) (fun _ _ _ h => h) ?hy72 hHeld ?re72
              case hi72 => (simp only [List.getElem?_toArray, List.getElem?_cons_succ, List.getElem?_cons_zero]; rfl)
              case hy72 =>
                refine Or.inl ⟨by rfl, ?_⟩
                intro wq hSw
                go_split_ands
                go_simp
                try with_reducible rfl
              (try simp only [Act.put, List.setIfInBounds_toArray, List.set_cons_zero, List.set_cons_succ])
              refine wpAnyH_take (i := 7) (oi := ?oi73) (v := ?v73) ?hi73 (by kernel_rfl) (by kernel_rfl) (by kernel_rfl) (fun _ _ _ h => h) ?hy73 hHeld ?re73
              case hi73 => (simp only [List.getElem?_toArray, List.getElem?_cons_succ, List.getElem?_cons_zero]; rfl)
              case hy73 =>
                refine Or.inl ⟨by rfl, ?_⟩
                intro wq hSw
                go_split_ands
                go_simp
                try with_reducible rfl
              (try simp only [Act.put, List.setIfInBounds_toArray, List.set_cons_zero, List.set_cons_succ])
              refine wpAnyH_take (i := 8) (oi := ?oi74) (v := ?v74) ?hi74 (by kernel_rfl) (by kernel_rfl) (by kernel_rfl) (fun _ _ _ h => h) ?hy74 hHeld ?re74
              case hi74 => (simp only [List.getElem?_toArray, List.getElem?_cons_succ, List.getElem?_cons_zero]; rfl)
              case hy74 =>
                refine Or.inl ⟨by rfl, ?_⟩
                intro wq hSw
                go_split_ands
                go_simp
                try with_reducible rfl
              (try simp only [Act.put, List.setIfInBounds_toArray, List.set_cons_zero, List.set_cons_succ])
              refine wpAnyH_take (i := 9) (oi := ?oi75) (v := ?v75) ?hi75 (by kernel_rfl) (by kernel_rfl) (by kernel_rfl) (fun _ _ _ h => h) ?hy75 hHeld ?re75
              case hi75 => (simp only [List.getElem?_toArray, List.getElem?_cons_succ, List.getElem?_cons_zero]; rfl)
              case hy75 =>
                refine Or.inl ⟨by rfl, ?_⟩
                intro wq hSw
                go_split_ands
                go_simp
                try with_reducible rfl
              (try simp only [Act.put, List.setIfInBounds_toArray, List.set_cons_zero, List.set_cons_succ])
              refine wpAnyH_ready (rs := [10]) (by kernel_rfl) (by simp) ?_
              refine AllReadyH.cons (o := ?o76) ?ho76 (fun K hK => ?st76) AllReadyH.nil
              case ho76 => (simp only [List.getElem?_toArray, List.getElem?_cons_succ, List.getElem?_cons_zero]; rfl)
              case st76 =>
                go_simp
                refine hK.out _ _ (hY7.alloc _).c5 (fun hHeld => ?_)
                clear hK K
                (try simp only [Act.put, List.setIfInBounds_toArray, List.set_cons_zero, List.set_cons_succ])
                refine wpAnyH_ready (rs := [11]) (by kernel_rfl) (by simp) ?_
                refine AllReadyH.cons (o := ?o77) ?ho77 (fun K hK => ?st77) AllReadyH.nil
                case ho77 => (simp only [List.getElem?_toArray, List.getElem?_cons_succ, List.getElem?_cons_zero]; rfl)
                case st77 =>
                  refine step_append_out w1.heap.size rfl (.tmp 65) (.tmp 75) rfl (.slice A m C) (acc.map (stmOf s)) m hml c0 y.tp (s.extract (c0).toNat y.tp.toNat) rfl rfl hO7 hsz7 hml2 ?_
                  intro g3 cap3 w3 hO3 hg3
                  have hY3 : IsT w3 wr.heap.size y := (hg3.block wr.heap.size hY7.lt (fun he => hOb _ he.symm rfl)).trans hY7
                  have hB3 : Below w1.heap.size w1 w3 := hB7.grown hg3 hB7.size (fun k hk => hO7.own k hk)
                  refine hK.out _ _ hY3.c5 (fun hHeld => ?_)
                  clear hK K
                  (try simp only [Act.put, List.setIfInBounds_toArray, List.set_cons_zero, List.set_cons_succ])
                  refine wpAnyH_take (i := 12) (oi := ?oi78) (v := ?v78) ?hi78 (by kernel_rfl) (by kernel_rfl) (by kernel_rfl) (fun _ _ _ h => h) ?hy78 hHeld ?re78
                  case hi78 => (simp only [List.getElem?_toArray, List.getElem?_cons_succ, List.getElem?_cons_zero]; rfl)
                  case hy78 =>
                    refine Or.inl ⟨by rfl, ?_⟩
                    intro wq hSw
                    go_split_ands
                    go_simp
                    try with_reducible rfl
                  (try simp only [Act.put, List.setIfInBounds_toArray, List.set_cons_zero, List.set_cons_succ])
                  refine wpAnyH_done (by kernel_rfl) ?_ _
                  refine NoPanic.normal ?_
                  go_wp2
                  go_roundg (l.length - i)
                  case measure => have := HA.out; omega
                  case rel => exact ⟨i + 1, _, c0, false, acc ++ [(c0, y.tp)], t.e, by congr 1, rfl, rfl, rfl, ⟨by omega⟩, HI.app hti HSS.out (by omega) (by omega) hB3 hO3⟩
            · have hks : (y.kind.toList == [59]) = false := by rw [kd_semi, HK1.out]; exact decide_eq_false (by rw [hkd]; decide)
              have hke : (y.kind.toList == [60, 101, 111, 102, 62]) = true := by have h5 := kd_eof y.kind.toList; unfold kEof at h5; rw [h5, HK1.out]; exact decide_eq_true hkd
              have hkn : (y.kind.toList != [60, 101, 111, 102, 62]) = false := by simp only [bne, hke]; rfl
              have HKD := Aside0.mk hkd
              clear hkd
              have HSS : Aside0 (stmts from_ false (t :: ts) = (c0, y.tp) :: stmts c0 false ts) := ⟨by
                simp only [stmts]
                rw [if_pos (by trivial), if_neg (fun h5 => by have := h5.2; rw [HCM.out] at this; cases this), if_pos (by rw [HKD.out]; simp), HCM.out, Option.getD_some, ← HK2.out]⟩
              go_wp2
              refine wp_any ?_
              intro w7 hw7
              have hY7 : IsT w7 wr.heap.size y := by rw [hw7]; exact HYW.out
              have hB7 : Below w1.heap.size w1 w7 := by rw [hw7]; exact HBW.out _
              have hO7 : ORow w7 w1.heap.size (.slice A m C) (acc.map (stmOf s)) := by rw [hw7]; exact HOW.out _
              clear hw7
              have hsz7 : w1.heap.size ≤ w7.heap.size := hB7.size
              have hOb : ∀ k, (Value.slice A m C).ownBlock = some k → k ≠ wr.heap.size := hOw'
              refine wp_region_noPanic ?_
              refine wp_region_held_drew (S := fun W => W.cell? ⟨wr.heap.size, 5, none⟩ = some (.int .i64 y.tp)) (by kernel_rfl) hY7.c5 (fun hHeld => ?_)
              refine wpAnyH_take (i := 0) (oi := ?oi79) (v := ?v79) ?hi79 (by kernel_rfl) (by kernel_rfl) (by kernel_rfl) (fun _ _ _ h => h) ?hy79 hHeld ?re79
              case hi79 => (simp only [List.getElem?_toArray, List.getElem?_cons_zero]; rfl)
              case hy79 =>
                refine Or.inl ⟨by rfl, ?_⟩
                intro wq hSw
                go_split_ands
                go_simp
                try with_reducible rfl
              (try simp only [Act.put, List.setIfInBounds_toArray, List.set_cons_zero, List.set_cons_succ])
              refine wpAnyH_take (i := 1) (oi := ?oi80) (v := ?v80) ?hi80 (by kernel_rfl) (by kernel_rfl) (by kernel_rfl) (fun _ _ _ h => h) ?hy80 hHeld ?re80
              case hi80 => (simp only [List.getElem?_toArray, List.getElem?_cons_succ, List.getElem?_cons_zero]; rfl)
              case hy80 =>
                refine Or.inl ⟨by rfl, ?_⟩
                intro wq hSw
                go_split_ands
                go_simp
                try with_reducible rfl
              (try simp only [Act.put, List.setIfInBounds_toArray, List.set_cons_zero, List.set_cons_succ])
              refine wpAnyH_take (i := 2) (oi := ?oi81) (v := ?v81) ?hi81 (by kernel_rfl) (by kernel_rfl) (by kernel_rfl) (fun _ _ _ h => h) ?hy81 hHeld ?re81
              case hi81 => (simp only [List.getElem?_toArray, List.getElem?_cons_succ, List.getElem?_cons_zero]; rfl)
              case hy81 =>
                refine Or.inl ⟨by rfl, ?_⟩
                intro wq hSw
                go_split_ands
                go_simp
                try with_reducible rfl
              (try simp only [Act.put, List.setIfInBounds_toArray, List.set_cons_zero, List.set_cons_succ])
              refine wpAnyH_take (i := 3) (oi := ?oi82) (v := ?v82) ?hi82 (by kernel_rfl) (by kernel_rfl) (by kernel_rfl) (fun _ _ _ h => h) ?hy82 hHeld ?re82
              case hi82 => (simp only [List.getElem?_toArray, List.getElem?_cons_succ, List.getElem?_cons_zero]; rfl)
              case hy82 =>
                refine Or.inl ⟨by rfl, ?_⟩
                intro wq hSw
                go_split_ands
                go_simp
                try with_reducible rfl
              (try simp only [Act.put, List.setIfInBounds_toArray, List.set_cons_zero, List.set_cons_succ])
              refine wpAnyH_take (i := 4) (oi := ?oi83) (v := ?v83) ?hi83 (by kernel_rfl) (by kernel_rfl) (by kernel_rfl) (fun _ _ _ h => h) ?hy83 hHeld ?re83
              case hi83 => (simp only [List.getElem?_toArray, List.getElem?_cons_succ, List.getElem?_cons_zero]; rfl)
              case hy83 =>
                refine Or.inl ⟨by rfl, ?_⟩
                intro wq hSw
                go_split_ands
                go_simp
                try with_reducible rfl
              (try simp only [Act.put, List.setIfInBounds_toArray, List.set_cons_zero, List.set_cons_succ])
              refine wpAnyH_take (i := 5) (oi := ?oi84) (v := ?v84) ?hi84 (by kernel_rfl) (by kernel_rfl) (by kernel_rfl) (fun _ _ _ h => h) ?hy84 hHeld ?re84
              case hi84 => (simp only [List.getElem?_toArray, List.getElem?_cons_succ, List.getElem?_cons_zero]; rfl)
              case hy84 =>
                refine Or.inl ⟨by rfl, ?_⟩
                intro wq hSw
                go_split_ands
                go_simp
                try with_reducible rfl
              (try simp only [Act.put, List.setIfInBounds_toArray, List.set_cons_zero, List.set_cons_succ])
              refine wpAnyH_take (i := 6) (oi := ?oi85) (v := ?v85) ?hi85 (by kernel_rfl) (by kernel_rfl) (by kernel_rfl) (fun _ _ _ h => h) ?hy85 hHeld ?re85
              case hi85 => (simp only [List.getElem?_toArray, List.getElem?_cons_succ, List.getElem?_cons_zero]; rfl)
              case hy85 =>
                refine Or.inl ⟨by rfl, ?_⟩
                intro wq hSw
                go_split_ands
                go_simp
                try with_reducible rfl
              (try simp only [Act.put, List.setIfInBounds_toArray, List.set_cons_zero, List.set_cons_succ])
              refine wpAnyH_take (i := 7) (oi := ?oi86) (v := ?v86) ?hi86 (by kernel_rfl) (by kernel_rfl) (by kernel_rfl) (fun _ _ _ h => h) ?hy86 hHeld ?re86
              case hi86 => (simp only [List.getElem?_toArray, List.getElem?_cons_succ, List.getElem?_cons_zero]; rfl)
              case hy86 =>
                refine Or.inl ⟨by rfl, ?_⟩
                intro wq hSw
                go_split_ands
                go_simp
                try with_reducible rfl
              (try simp only [Act.put, List.setIfInBounds_toArray, List.set_cons_zero, List.set_cons_succ])
              refine wpAnyH_take (i := 8) (oi := ?oi87) (v := ?v87) ?hi87 (by kernel_rfl) (by kernel_rfl) (by kernel_rfl) (fun _ _ _ h => h) ?hy87 hHeld ?re87
              case hi87 => (simp only [List.getElem?_toArray, List.getElem?_cons_succ, List.getElem?_cons_zero]; rfl)
              case hy87 =>
                refine Or.inl ⟨by rfl, ?_⟩
                intro wq hSw
                go_split_ands
                go_simp
                try with_reducible rfl
              (try simp only [Act.put, List.setIfInBounds_toArray, List.set_cons_zero, List.set_cons_succ])
              refine wpAnyH_take (i := 9) (oi := ?oi88) (v := ?v88) ?hi88 (by kernel_rfl) (by kernel_rfl) (by kernel_rfl) (fun _ _ _ h => h) ?hy88 hHeld ?re88
              case hi88 => (simp only [List.getElem?_toArray, List.getElem?_cons_succ, List.getElem?_cons_zero]; rfl)
              case hy88 =>
                refine Or.inl ⟨by rfl, ?_⟩
                intro wq hSw
                go_split_ands
                go_simp
                try with_reducible rfl
              (try simp only [Act.put, List.setIfInBounds_toArray, List.set_cons_zero, List.set_cons_succ])
              refine wpAnyH_ready (rs := [10]) (by kernel_rfl) (by simp) ?_
              refine AllReadyH.cons (o := ?o89) ?ho89 (fun K hK => ?st89) AllReadyH.nil
              case ho89 => (simp only [List.getElem?_toArray, List.getElem?_cons_succ, List.getElem?_cons_zero]; rfl)
              case st89 =>
                go_simp
                refine hK.out _ _ (hY7.alloc _).c5 (fun hHeld => ?_)
                clear hK K
                (try simp only [Act.put, List.setIfInBounds_toArray, List.set_cons_zero, List.set_cons_succ])
                refine wpAnyH_ready (rs := [11]) (by kernel_rfl) (by simp) ?_
                refine AllReadyH.cons (o := ?o90) ?ho90 (fun K hK => ?st90) AllReadyH.nil
                case ho90 => (simp only [List.getElem?_toArray, List.getElem?_cons_succ, List.getElem?_cons_zero]; rfl)
                case st90 =>
                  refine step_append_out w1.heap.size rfl (.tmp 65) (.tmp 75) rfl (.slice A m C) (acc.map (stmOf s)) m hml c0 y.tp (s.extract (c0).toNat y.tp.toNat) rfl rfl hO7 hsz7 hml2 ?_
                  intro g3 cap3 w3 hO3 hg3
                  have hY3 : IsT w3 wr.heap.size y := (hg3.block wr.heap.size hY7.lt (fun he => hOb _ he.symm rfl)).trans hY7
                  have hB3 : Below w1.heap.size w1 w3 := hB7.grown hg3 hB7.size (fun k hk => hO7.own k hk)
                  refine hK.out _ _ hY3.c5 (fun hHeld => ?_)
                  clear hK K
                  (try simp only [Act.put, List.setIfInBounds_toArray, List.set_cons_zero, List.set_cons_succ])
                  refine wpAnyH_take (i := 12) (oi := ?oi91) (v := ?v91) ?hi91 (by kernel_rfl) (by kernel_rfl) (by kernel_rfl) (fun _ _ _ h => h) ?hy91 hHeld ?re91
                  case hi91 => (simp only [List.getElem?_toArray, List.getElem?_cons_succ, List.getElem?_cons_zero]; rfl)
                  case hy91 =>
                    refine Or.inl ⟨by rfl, ?_⟩
                    intro wq hSw
                    go_split_ands
                    go_simp
                    try with_reducible rfl
                  (try simp only [Act.put, List.setIfInBounds_toArray, List.set_cons_zero, List.set_cons_succ])
                  refine wpAnyH_done (by kernel_rfl) ?_ _
                  refine NoPanic.normal ?_
                  go_wp2
                  go_roundg (l.length - i)
                  case measure => have := HA.out; omega
                  case rel => exact ⟨i + 1, _, c0, false, acc ++ [(c0, y.tp)], t.e, by congr 1, rfl, rfl, rfl, ⟨by omega⟩, HI.app hti HSS.out (by omega) (by omega) hB3 hO3⟩
            · have hks : (y.kind.toList == [59]) = false := by rw [kd_semi, HK1.out]; exact decide_eq_false hkd.1
              have hke : (y.kind.toList == [60, 101, 111, 102, 62]) = false := by have h5 := kd_eof y.kind.toList; unfold kEof at h5; rw [h5, HK1.out]; exact decide_eq_false hkd.2
              have hkn : (y.kind.toList != [60, 101, 111, 102, 62]) = true := by simp only [bne, hke]; rfl
              have HKD := Aside0.mk hkd
              clear hkd
              have HSS : Aside0 (stmts from_ false (t :: ts) = stmts c0 true ts) := ⟨by
                simp only [stmts]
                rw [if_pos (by trivial), if_neg (fun h5 => HKD.out.2 h5.1), if_neg (by intro h5; rcases h5 with h5 | h5; exact HKD.out.1 h5; exact HKD.out.2 h5), HCM.out, Option.getD_some]⟩
              go_wp2
              go_roundg (l.length - i)
              case measure => have := HA.out; omega
              case rel => exact ⟨i + 1, _, c0, true, acc, t.e, by congr 1, rfl, rfl, rfl, ⟨by omega⟩, HI.skip hti HSS.out (by omega) (by omega) (HBW.out _) (HOW.out _)⟩
      · have hd : decide ((i : Int) < (l.length : Int)) = false := decide_eq_false (by omega)
        obtain ⟨A, C, hv⟩ := HI.row.shape
        obtain rfl := hv
        have HJ : Aside0 (acc = stmts 0 true l) := ⟨by have := HI.join; rw [List.drop_eq_nil_of_le (by omega)] at this; simpa [stmts] using this⟩
        have HO := Aside0.mk HI.row
        go_wp2
        (try simp only [Exit.inBlock, Exit.then]); refine bodyPost_ret (results_tmp2 rfl _ _ _) rfl ?_
        rw [hRn.out, ← HJ.out]
        exact ⟨_, w1.heap.size, rfl, hB1.trans (hBr.mono hB1.size), hB1.size, HO.out⟩
end Go.Proofs.YtjepdlmcombmcaaGreatDoor.Lx
