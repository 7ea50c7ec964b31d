/- The reference's literals: what Quoted returns. Conditions: a mark stands at the place; no feed stands behind a backslash, and no carriage return anywhere; the text is no longer than 5000 bytes. -/
import Derived.Test.YtjepdlmcombmcaaGreatDoorRf
import Derived.Test.YtjepdlmcombmcaaGreatDoorNj
namespace Go.Proofs.YtjepdlmcombmcaaGreatDoor.Lx
open Go.RowKit Go.Proofs.YtjepdlmcombmcaaGreatDoorW.PrintWords

/-- The bytes that a literal's value holds so far. -/
def BRow (w : World) (base : Nat) (v : Value) (ys : List Int) : Prop := w.ownsRow base 5 1 v ys.length (nums .u8 ys)
theorem BRow.nil (w : World) (base : Nat) : BRow w base (.slice none 0 0) [] := ⟨rfl, .inl ⟨rfl, rfl⟩⟩
section
variable {w w1 : World} {base : Nat} {v : Value} {ys : List Int}
theorem BRow.shape (h : BRow w base v ys) : ∃ A C, v = .slice A ys.length C := by
  obtain ⟨_, ⟨rfl, h0⟩ | ⟨g, cap, cur, rfl, _⟩⟩ := h
  · exact ⟨none, 0, by rw [h0]⟩
  · exact ⟨_, _, rfl⟩
theorem BRow.own (h : BRow w base v ys) : ∀ k, v.ownBlock = some k → base ≤ k := fun k hk => own_base h k hk
theorem BRow.below (h : BRow w base v ys) (hb : Below w.heap.size w w1) : BRow w1 base v ys := by
  obtain ⟨h1, h2⟩ := h
  refine ⟨h1, ?_⟩
  rcases h2 with h2 | ⟨g, cap, cur, hv, hb', hh, rest⟩
  · exact .inl h2
  · exact .inr ⟨g, cap, cur, hv, hb', (hb.block g (blk_lt hh)).trans hh, rest⟩
theorem BRow.to_string (h : BRow w base v ys) : (convert 50 9 v).run Tryz.prog w = .ok (.string (strOfNums ys)) w := by
  obtain ⟨h1, ⟨rfl, h0⟩ | ⟨g, cap, cur, rfl, _, hh, _, _, _, ht⟩⟩ := h
  · have : ys = [] := List.eq_nil_of_length_eq_zero h0
    subst this
    exact run_convert_bytes_nil w 50 5 Tryz.underlying50 Tryz.underlying5 0 0 9 Tryz.underlying9
  · refine run_convert_bytes_arg w 50 5 Tryz.underlying50 Tryz.underlying5 g 0 ys.length cap ys rfl (fun i hi => ?_) 9 Tryz.underlying9
    rw [Nat.zero_add, cell_of_row w g i cur 5 (0, 0) hh]
    exact take_get (by rw [← ht, Nat.mul_one]) i hi
end
section
variable {ops : Array Oper} {rest : List Oper} {o : Oper} {a : Act} {Q : Exit → Act → World → Prop}
/-- append(v, zs...), v bytes of the call's own. -/
theorem append_bytes {W : World} (base : Nat) (hgd : o.guard = none) (s x : Operand)
    (ho : o.op = .call { callee := .builtin .append, args := #[s, x], argTypes := #[50, 50] })
    (v : Value) (ys : List Int) (g m cap : Nat) (zs : List Int) (hs : a.eval s = v) (hx : a.eval x = .slice (some ⟨g, 0, none⟩) m cap) (hl : zs.length = m)
    (hz : ∀ j, j < m → W.cell? ⟨g, j, none⟩ = some (.int .u8 (zs.getD j 0)))
    (HO : BRow W base v ys) (hbase : base ≤ W.heap.size) (hb : ys.length ≤ 1000000) (hm : 0 < m) (hm2 : m ≤ 100)
    (h : ∀ v1 w1, BRow w1 base v1 (ys ++ zs) → W.grownBy w1 v.ownBlock → wpList Tryz.prog ops Q rest (a.put o.dst v1) w1) :
    wpList Tryz.prog ops Q (o :: rest) a W := by
  obtain ⟨i0, hi, hzz⟩ := Option.map_eq_some_iff.1 info5
  simp only [Prod.mk.injEq] at hzz
  obtain ⟨hz0, hz1, hz2⟩ := hzz
  refine wpList_append_own_at W hgd s x 50 ho base 5 i0 _ 1 1 Tryz.underlying50 hi hz0 hz1 hz2 rfl (by omega) v ys.length (nums .u8 ys) hs HO ⟨g, 0, none⟩ m cap (nums .u8 zs) hx (by rw [nums_length, hl, Nat.mul_one]) ?_ ?_ (by simp only [maxLen]; omega) (by omega) hbase ?_
  · intro j u hu
    have hj : j < m := by rw [← hl, ← nums_length .u8 zs]; exact (List.getElem?_eq_some_iff.1 hu).1
    have hadd : (⟨g, 0, none⟩ : Addr).add j = ⟨g, j, none⟩ := by unfold Addr.add; split <;> simp_all
    rw [hadd, hz j hj, ← hu]
    simp [nums, show j < zs.length by omega, List.getD_eq_getElem?_getD]
  · intro u hu
    simp only [nums, List.mem_map] at hu
    obtain ⟨z, _, rfl⟩ := hu
    rfl
  · intro v1 w1 hown hg _ _
    refine h v1 w1 ?_ hg
    unfold BRow
    rw [List.length_append, hl]
    simpa [nums] using hown
end
theorem strOfNums_size (ys : List Int) : (strOfNums ys).size = ys.length := by
  show (ys.map _).toArray.size = _
  simp
section
variable {s : ByteArray} {c L i : Int} {raw bytes : Bool}
theorem qu_end (h : (s.size : Int) ≤ i) : quoted s c L raw bytes ((s.size : Int) - i).toNat i = none := by
  rw [show ((s.size : Int) - i).toNat = 0 by omega]
  rfl
theorem qu_fuel (h0 : 0 ≤ i) (h : i < (s.size : Int)) : ∃ k, ((s.size : Int) - i).toNat = k + 1 ∧ ∀ e : Int, i < e → quoted s c L raw bytes k e = quoted s c L raw bytes ((s.size : Int) - e).toNat e :=
  ⟨((s.size : Int) - i).toNat - 1, by omega, fun e he => quoted_more s c L raw bytes _ e (by omega) (by omega) _ (Nat.le_refl _)⟩
theorem qu_stop (h0 : 0 ≤ i) (h : i < (s.size : Int)) (hq : isQ s c L i = true) : quoted s c L raw bytes ((s.size : Int) - i).toNat i = some (i + L) := by
  obtain ⟨k, hk, _⟩ := qu_fuel (c := c) (L := L) (raw := raw) (bytes := bytes) h0 h
  rw [hk]
  simp only [quoted]
  rw [if_neg (by omega), if_pos hq]
theorem qu_esc_no (h0 : 0 ≤ i) (h : i < (s.size : Int)) (hq : isQ s c L i = false) (hb : (bt s i == 92) = true) (he : esc s raw bytes i = none) : quoted s c L raw bytes ((s.size : Int) - i).toNat i = none := by
  obtain ⟨k, hk, _⟩ := qu_fuel (c := c) (L := L) (raw := raw) (bytes := bytes) h0 h
  rw [hk]
  simp only [quoted]
  rw [if_neg (by omega), if_neg (by rw [hq]; decide), if_pos hb, he]
theorem qu_esc (h0 : 0 ≤ i) (h : i < (s.size : Int)) (hq : isQ s c L i = false) (hb : (bt s i == 92) = true) {e : Int} (he : esc s raw bytes i = some e) : quoted s c L raw bytes ((s.size : Int) - i).toNat i = quoted s c L raw bytes ((s.size : Int) - e).toNat e := by
  obtain ⟨k, hk, hf⟩ := qu_fuel (c := c) (L := L) (raw := raw) (bytes := bytes) h0 h
  rw [hk]
  have := esc_in s raw bytes i e h0 he
  rw [← hf e (by omega)]
  conv => lhs; unfold quoted
  rw [if_neg (by omega), if_neg (by rw [hq]; decide), if_pos hb, he]
theorem qu_feed (h0 : 0 ≤ i) (h : i < (s.size : Int)) (hq : isQ s c 1 i = false) (hb : (bt s i == 92) = false) (hf : (bt s i == 10) = true) : quoted s c 1 raw bytes ((s.size : Int) - i).toNat i = none := by
  obtain ⟨k, hk, _⟩ := qu_fuel (c := c) (L := 1) (raw := raw) (bytes := bytes) h0 h
  rw [hk]
  simp only [quoted]
  rw [if_neg (by omega), if_neg (by rw [hq]; decide), if_neg (by rw [hb]; decide), if_pos (by rw [hf]; rfl)]
theorem qu_next (h0 : 0 ≤ i) (h : i < (s.size : Int)) (hq : isQ s c L i = false) (hb : (bt s i == 92) = false) (hf : (bt s i == 10 && L == 1) = false) : quoted s c L raw bytes ((s.size : Int) - i).toNat i = quoted s c L raw bytes ((s.size : Int) - (i + 1)).toNat (i + 1) := by
  obtain ⟨k, hk, hff⟩ := qu_fuel (c := c) (L := L) (raw := raw) (bytes := bytes) h0 h
  rw [hk, ← hff (i + 1) (by omega)]
  conv => lhs; unfold quoted
  rw [if_neg (by omega), if_neg (by rw [hq]; decide), if_neg (by rw [hb]; decide), if_neg (by rw [hf]; decide)]
theorem esx_raw (h : i + 1 < (s.size : Int)) : esc s true bytes i = some (i + 2) := by
  unfold esc
  rw [if_neg (by omega), if_pos rfl]
theorem esx_raw_no (h : (s.size : Int) ≤ i + 1) : esc s true bytes i = none := by
  unfold esc
  rw [if_pos h]
end
theorem OwnB.cells5 {w : World} {base g n cap : Nat} {ys : List Int} (h : OwnB w base (.slice (some ⟨g, 0, none⟩) n cap) ys) (hn : ys.length = n) : ∀ j, j < n → w.cell? ⟨g, j, none⟩ = some (.int .u8 (ys.getD j 0)) := by
  obtain ⟨g', cap', hv, _, _, _, _, hcell, _⟩ := h.form
  injection hv with e1 e2 e3
  injection e1 with e1
  injection e1 with e1
  subst e1
  exact fun j hj => (hcell j (by omega)).1
theorem mark_cut (s : ByteArray) (p : Int) (c : UInt8) (h0 : 0 ≤ p) (hp : p < (s.size : Int)) (hc : c.toNat ≠ 0) (hb : bt s p = (c.toNat : Int)) : s.extract p.toNat (p + 1).toNat = ⟨#[c]⟩ := by
  have h := cut1 s p c h0 (by omega) hc
  rw [hb, beq_self_eq_true] at h
  have e1 : (⟨#[c]⟩ : ByteArray).toList = [c] := ByteArray.toList_mk [c]
  have h2 := list_beq (s.extract p.toNat (p + 1).toNat) ⟨#[c]⟩
  rw [e1, h] at h2
  simpa using h2.symm
/-- What Quoted returns. -/
def QuotE (L p : Int) (r : Option Int) (w : World) (e : Ending) (w' : World) : Prop := match r with
  | some q => ∃ t : ByteArray, e = .returned (.tuple #[.string t, .int .i64 q, .bool true]) ∧ (t.size = 0 ↔ q = p + L + L) ∧ Below w.heap.size w w'
  | none => ∃ (t : ByteArray) (q : Int), e = .returned (.tuple #[.string t, .int .i64 q, .bool false]) ∧ Below w.heap.size w w'
set_option maxRecDepth 100000 in
set_option maxHeartbeats 8000000 in
theorem quoted_96_1 (s : ByteArray) (p : Int) (raw bytes : Bool) (w : World) (h0 : 0 ≤ p) (h1 : p < (s.size : Int)) (hT : Txt s) (hc : bt s p = 96) :
    Calls Tryz.prog 39 #[.string s, .int .i64 p, .bool raw, .bool bytes] w (QuotE 1 p (quoted s 96 1 raw bytes ((s.size : Int) - p).toNat (p + 1)) w) := by
  obtain ⟨R, hR⟩ : ∃ R, quoted s 96 1 raw bytes ((s.size : Int) - p).toNat (p + 1) = R := ⟨_, rfl⟩
  have hs := hT.size
  have hs6 : (s.size : Int) ≤ 1000000 := by omega
  have HR : Aside0 (quoted s 96 1 raw bytes ((s.size : Int) - (p + 1)).toNat (p + 1) = R) := ⟨by rw [← hR]; exact quoted_more s _ _ raw bytes _ _ (by omega) (Nat.le_refl _) _ (by omega)⟩
  rw [hR]
  clear hR
  have hq : s.extract p.toNat (p + 1).toNat = ⟨#[96]⟩ := mark_cut s p 96 h0 h1 (by decide) hc
  clear hc
  have wp1 := iwrap (p + 1) (by omega) (by omega)
  have wpL := iwrap (p + 1) (by omega) (by omega)
  have b1 : p ≤ p + 1 := by omega
  have b2 : p + 1 ≤ (s.size : Int) := by omega
  have b3 : 0 ≤ p + 1 := by omega
  go_enter Tryz.func39, Tryz.ntmps39
  go_wp2
  go_loopg [12, 13] (((s.size : Int) - (p + 1)).toNat + 1) (fun kq v12 v13 wr => ∃ (i : Int) (v : Value) (ys : List Int), v12 = v ∧ v13 = .int .i64 i ∧ Aside0 (p + 1 ≤ i ∧ i ≤ (s.size : Int) ∧ quoted s 96 1 raw bytes ((s.size : Int) - i).toNat i = R ∧ ((s.size : Int) - i).toNat < kq) ∧ Aside0 ((i = p + 1 ∧ ys.length = 0 ∨ p + 1 < i ∧ 0 < ys.length) ∧ (ys.length : Int) ≤ 4 * (i - (p + 1))) ∧ Aside0 (BRow wr w.heap.size v ys) ∧ Aside0 (Below w.heap.size w wr))
  case atStart => exact ⟨p + 1, _, [], rfl, rfl, ⟨by omega, by omega, HR.out, by omega⟩, ⟨.inl ⟨rfl, rfl⟩, by simp⟩, ⟨BRow.nil _ _⟩, ⟨Below.refl _ _⟩⟩
  case round =>
    obtain ⟨i, v, ys, rfl, rfl, HA, HL, HY, HB⟩ := hrel
    have HBo := HB.out
    have HYo := HY.out
    obtain ⟨A, C, hv⟩ := HYo.shape
    obtain rfl := hv
    have i0 := HA.out.1
    have i00 : 0 ≤ i := by omega
    have i1 := HA.out.2.1
    have hyl : ys.length ≤ 1000000 := by have := HL.out.2; omega
    have wi1 := iwrap (i + 1) (by omega) (by omega)
    have wi2 := iwrap (i + 2) (by omega) (by omega)
    have wiL := iwrap (i + 1) (by omega) (by omega)
    by_cases hi : i < (s.size : Int)
    · have hd : decide (i < (s.size : Int)) = true := decide_eq_true hi
      have hx := bt_at s i
      cases hqi : (bt s i == 96) with
      | true =>
        have hres : Aside0 (R = some (i + 1)) := ⟨by rw [← HA.out.2.2.1]; exact qu_stop i00 hi (by unfold isQ; rw [hqi]; rfl)⟩
        have hst := HYo.to_string
        go_wp2_with (first | (go_at_call 15; (with_reducible refine (starts1_c s 96 96 i _ rfl (by decide) (by omega) (by omega) hs6).mono ?_); rintro e w' ⟨rfl, hw'⟩; obtain rfl := hw'.symm))
        (try simp only [Exit.inBlock, Exit.then]); refine bodyPost_ret (results_tmp3 rfl _ _ _ rfl rfl rfl) rfl ?_
        rw [hres.out]
        exact ⟨_, rfl, by rw [strOfNums_size]; have := HL.out.1; omega, HBo⟩
      | false =>
        have HQ : Aside0 (isQ s 96 1 i = false) := ⟨by unfold isQ; rw [hqi]; rfl⟩
        have n13 : (bt s i == 13) = false := beqf (by have := hT.rng i i00 hi; omega)
        cases h10 : (bt s i == 10) with
        | true =>
          have n92 : (bt s i == 92) = false := by rw [beq_iff_eq.1 h10]; rfl
          have hres : Aside0 (R = none) := ⟨by rw [← HA.out.2.2.1]; exact qu_feed i00 hi HQ.out n92 h10⟩
          go_wp2_with (first | (go_at_call 15; (with_reducible refine (starts1_c s 96 96 i _ rfl (by decide) (by omega) (by omega) hs6).mono ?_); rintro e w' ⟨rfl, hw'⟩; obtain rfl := hw'.symm))
          (try simp only [Exit.inBlock, Exit.then]); refine bodyPost_ret (results_tmp3 rfl _ _ _ rfl rfl rfl) rfl ?_
          rw [hres.out]
          exact ⟨_, _, rfl, HBo⟩
        | false =>
          cases h92 : (bt s i == 92) with
          | false =>
            have HNX : Aside0 (quoted s 96 1 raw bytes ((s.size : Int) - (i + 1)).toNat (i + 1) = R) := ⟨by rw [← HA.out.2.2.1]; exact (qu_next i00 hi HQ.out h92 (by rw [h10]; rfl)).symm⟩
            have HB1 := below_alloc HBo (.cells #[.int .u8 (bt s i)] 5)
            have HY1 := HYo.below (below_alloc (Below.refl _ wr) (.cells #[.int .u8 (bt s i)] 5))
            have HZ1 : ∀ j, j < 1 → (wr.alloc (.cells #[.int .u8 (bt s i)] 5)).cell? ⟨wr.heap.size, j, none⟩ = some (.int .u8 ([bt s i].getD j 0)) := fun j hj => by obtain rfl : j = 0 := (by omega); exact (blk_cell (blk_new wr _) 0).trans rfl
            have HS1 : w.heap.size ≤ (wr.alloc (.cells #[.int .u8 (bt s i)] 5)).heap.size := HB1.size
            have HZA := Aside0.mk HZ1
            clear HZ1
            go_wp2_with (first | (go_at_call 15; (with_reducible refine (starts1_c s 96 96 i _ rfl (by decide) (by omega) (by omega) hs6).mono ?_); rintro e w' ⟨rfl, hw'⟩; obtain rfl := hw'.symm) | (at_builtin; refine append_bytes w.heap.size rfl (.tmp 61) (.tmp 63) rfl _ ys wr.heap.size 1 1 [bt s i] rfl rfl rfl HZA.out HY1 HS1 hyl (by omega) (by omega) ?_; intro v1 w3 hB3 hg3))
            go_roundg (((s.size : Int) - (i + 1)).toNat + 1)
            case measure => have := HA.out.2.2.2; omega
            case rel => exact ⟨i + 1, _, _, rfl, rfl, ⟨by omega, by omega, HNX.out, by omega⟩, ⟨.inr ⟨by omega, by simp⟩, by have := HL.out.2; simp; omega⟩, ⟨hB3⟩, ⟨HB1.grown hg3 HB1.size (fun k hk => HYo.own k hk)⟩⟩
          | true =>
            cases raw with
            | true =>
              by_cases hi1 : i + 1 < (s.size : Int)
              · have hie : (i + 1 == (s.size : Int)) = false := beqf (by omega)
                have hx1 := bt_at s (i + 1)
                have i10 : 0 ≤ i + 1 := by omega
                have n10 : (bt s (i + 1) == 10) = false := beqf (hT.feed i i00 (beq_iff_eq.1 h92))
                have HNX : Aside0 (quoted s 96 1 true bytes ((s.size : Int) - (i + 2)).toNat (i + 2) = R) := ⟨by rw [← HA.out.2.2.1]; exact (qu_esc i00 hi HQ.out h92 (esx_raw hi1)).symm⟩
                have HB1 := below_alloc HBo (.cells #[.int .u8 (bt s i), .int .u8 (bt s (i + 1))] 5)
                have HY1 := HYo.below (below_alloc (Below.refl _ wr) (.cells #[.int .u8 (bt s i), .int .u8 (bt s (i + 1))] 5))
                have HZ1 : ∀ j, j < 2 → (wr.alloc (.cells #[.int .u8 (bt s i), .int .u8 (bt s (i + 1))] 5)).cell? ⟨wr.heap.size, j, none⟩ = some (.int .u8 ([bt s i, bt s (i + 1)].getD j 0)) := fun j hj => by
                  have hj : j = 0 ∨ j = 1 := by omega
                  rcases hj with rfl | rfl
                  · exact (blk_cell (blk_new wr _) 0).trans rfl
                  · exact (blk_cell (blk_new wr _) 1).trans rfl
                have HS1 : w.heap.size ≤ (wr.alloc (.cells #[.int .u8 (bt s i), .int .u8 (bt s (i + 1))] 5)).heap.size := HB1.size
                have HZA := Aside0.mk HZ1
                clear HZ1
                go_wp2_with (first | (go_at_call 15; (with_reducible refine (starts1_c s 96 96 i _ rfl (by decide) (by omega) (by omega) hs6).mono ?_); rintro e w' ⟨rfl, hw'⟩; obtain rfl := hw'.symm) | (at_builtin; refine append_bytes w.heap.size rfl (.tmp 107) (.tmp 113) rfl _ ys wr.heap.size 2 2 [bt s i, bt s (i + 1)] rfl rfl rfl HZA.out HY1 HS1 hyl (by omega) (by omega) ?_; intro v1 w3 hB3 hg3))
                go_roundg (((s.size : Int) - (i + 2)).toNat + 1)
                case measure => have := HA.out.2.2.2; omega
                case rel => exact ⟨i + 2, _, _, rfl, rfl, ⟨by omega, by omega, HNX.out, by omega⟩, ⟨.inr ⟨by omega, by simp⟩, by have := HL.out.2; simp; omega⟩, ⟨hB3⟩, ⟨HB1.grown hg3 HB1.size (fun k hk => HYo.own k hk)⟩⟩
              · have hie : (i + 1 == (s.size : Int)) = true := beq_iff_eq.2 (by omega)
                have hres : Aside0 (R = none) := ⟨by rw [← HA.out.2.2.1]; exact qu_esc_no i00 hi HQ.out h92 (esx_raw_no (by omega))⟩
                go_wp2_with (first | (go_at_call 15; (with_reducible refine (starts1_c s 96 96 i _ rfl (by decide) (by omega) (by omega) hs6).mono ?_); rintro e w' ⟨rfl, hw'⟩; obtain rfl := hw'.symm))
                (try simp only [Exit.inBlock, Exit.then]); refine bodyPost_ret (results_tmp3 rfl _ _ _ rfl rfl rfl) rfl ?_
                rw [hres.out]
                exact ⟨_, _, rfl, HBo⟩
            | false =>
              cases hesc : esc s false bytes i with
              | none =>
                have HES := Aside0.mk hesc
                have hres : Aside0 (R = none) := ⟨by rw [← HA.out.2.2.1]; exact qu_esc_no i00 hi HQ.out h92 hesc⟩
                clear hesc
                go_wp2_with (first | (go_at_call 15; (with_reducible refine (starts1_c s 96 96 i _ rfl (by decide) (by omega) (by omega) hs6).mono ?_); rintro e w' ⟨rfl, hw'⟩; obtain rfl := hw'.symm) | (go_at_call 59; (with_reducible refine (escape_c s i bytes _ i00 hi hs6).mono ?_); rintro e w' hn; rw [HES.out] at hn; obtain ⟨q5, rfl, hw'⟩ := hn; obtain rfl := hw'.symm))
                (try simp only [Exit.inBlock, Exit.then]); refine bodyPost_ret (results_tmp3 rfl _ _ _ rfl rfl rfl) rfl ?_
                rw [hres.out]
                exact ⟨_, _, rfl, HBo⟩
              | some e5 =>
                have HES := Aside0.mk hesc
                have hein := esc_in s false bytes i e5 i00 hesc
                have HNX : Aside0 (quoted s 96 1 false bytes ((s.size : Int) - e5).toNat e5 = R) := ⟨by rw [← HA.out.2.2.1]; exact (qu_esc i00 hi HQ.out h92 hesc).symm⟩
                have e51 := hein.1
                have e52 := hein.2
                clear hein hesc
                go_wp2_with (first | (go_at_call 15; (with_reducible refine (starts1_c s 96 96 i _ rfl (by decide) (by omega) (by omega) hs6).mono ?_); rintro e w' ⟨rfl, hw'⟩; obtain rfl := hw'.symm) | (go_at_call 59; (with_reducible refine (escape_c s i bytes _ i00 hi hs6).mono ?_); rintro e w5 hn; rw [HES.out] at hn; obtain ⟨g5, n5, cap5, zs, rfl, hO5, hz5, hn51, hn54, hB5⟩ := hn; have hBB5 := HBo.trans (hB5.mono HBo.size); have HY5 := HYo.below hB5; have hZ5 := Aside0.mk (hO5.cells5 hz5)) | (at_builtin; refine append_bytes w.heap.size rfl (.tmp 131) (.tmp 132) rfl _ ys g5 n5 cap5 zs rfl rfl hz5 hZ5.out HY5 hBB5.size hyl (by omega) (by omega) ?_; intro v1 w3 hB3 hg3))
                go_roundg (((s.size : Int) - e5).toNat + 1)
                case measure => have := HA.out.2.2.2; omega
                case rel => exact ⟨e5, _, _, rfl, rfl, ⟨by omega, by omega, HNX.out, by omega⟩, ⟨.inr ⟨by omega, by rw [List.length_append]; omega⟩, by have := HL.out.2; rw [List.length_append]; push_cast; omega⟩, ⟨hB3⟩, ⟨hBB5.grown hg3 hBB5.size (fun k hk => HYo.own k hk)⟩⟩
    · have hd : decide (i < (s.size : Int)) = false := decide_eq_false hi
      have hres : Aside0 (R = none) := ⟨by rw [← HA.out.2.2.1]; exact qu_end (by omega)⟩
      go_wp2
      (try simp only [Exit.inBlock, Exit.then]); refine bodyPost_ret (results_tmp3 rfl _ _ _ rfl rfl rfl) rfl ?_
      rw [hres.out]
      exact ⟨_, _, rfl, HBo⟩
set_option maxRecDepth 100000 in
set_option maxHeartbeats 8000000 in
theorem quoted_34_1 (s : ByteArray) (p : Int) (raw bytes : Bool) (w : World) (h0 : 0 ≤ p) (h1 : p < (s.size : Int)) (hT : Txt s) (hc : bt s p = 34) (h3 : (bt s (p + 1) == 34 && bt s (p + 2) == 34) = false) :
    Calls Tryz.prog 39 #[.string s, .int .i64 p, .bool raw, .bool bytes] w (QuotE 1 p (quoted s 34 1 raw bytes ((s.size : Int) - p).toNat (p + 1)) w) := by
  obtain ⟨R, hR⟩ : ∃ R, quoted s 34 1 raw bytes ((s.size : Int) - p).toNat (p + 1) = R := ⟨_, rfl⟩
  have hs := hT.size
  have hs6 : (s.size : Int) ≤ 1000000 := by omega
  have h33 : (bt s p == 34 && (bt s (p + 1) == 34 && bt s (p + 2) == 34)) = false := by rw [h3, Bool.and_false]
  clear h3
  have HR : Aside0 (quoted s 34 1 raw bytes ((s.size : Int) - (p + 1)).toNat (p + 1) = R) := ⟨by rw [← hR]; exact quoted_more s _ _ raw bytes _ _ (by omega) (Nat.le_refl _) _ (by omega)⟩
  rw [hR]
  clear hR
  have hq : s.extract p.toNat (p + 1).toNat = ⟨#[34]⟩ := mark_cut s p 34 h0 h1 (by decide) hc
  clear hc
  have wp1 := iwrap (p + 1) (by omega) (by omega)
  have wpL := iwrap (p + 1) (by omega) (by omega)
  have b1 : p ≤ p + 1 := by omega
  have b2 : p + 1 ≤ (s.size : Int) := by omega
  have b3 : 0 ≤ p + 1 := by omega
  have ha1 : (⟨#[34]⟩ : ByteArray) ++ ⟨#[34]⟩ = ⟨#[34, 34]⟩ := rfl
  have ha2 : (⟨#[34, 34]⟩ : ByteArray) ++ ⟨#[34]⟩ = ⟨#[34, 34, 34]⟩ := rfl
  go_enter Tryz.func39, Tryz.ntmps39
  go_wp2_with (first | (go_at_call 15; (with_reducible refine (starts3_c s 34 34 p _ rfl (by decide) (by omega) (by omega) hs6).mono ?_); rintro e w' ⟨rfl, hw'⟩; obtain rfl := hw'.symm))
  go_loopg [12, 13] (((s.size : Int) - (p + 1)).toNat + 1) (fun kq v12 v13 wr => ∃ (i : Int) (v : Value) (ys : List Int), v12 = v ∧ v13 = .int .i64 i ∧ Aside0 (p + 1 ≤ i ∧ i ≤ (s.size : Int) ∧ quoted s 34 1 raw bytes ((s.size : Int) - i).toNat i = R ∧ ((s.size : Int) - i).toNat < kq) ∧ Aside0 ((i = p + 1 ∧ ys.length = 0 ∨ p + 1 < i ∧ 0 < ys.length) ∧ (ys.length : Int) ≤ 4 * (i - (p + 1))) ∧ Aside0 (BRow wr w.heap.size v ys) ∧ Aside0 (Below w.heap.size w wr))
  case atStart => exact ⟨p + 1, _, [], rfl, rfl, ⟨by omega, by omega, HR.out, by omega⟩, ⟨.inl ⟨rfl, rfl⟩, by simp⟩, ⟨BRow.nil _ _⟩, ⟨Below.refl _ _⟩⟩
  case round =>
    obtain ⟨i, v, ys, rfl, rfl, HA, HL, HY, HB⟩ := hrel
    have HBo := HB.out
    have HYo := HY.out
    obtain ⟨A, C, hv⟩ := HYo.shape
    obtain rfl := hv
    have i0 := HA.out.1
    have i00 : 0 ≤ i := by omega
    have i1 := HA.out.2.1
    have hyl : ys.length ≤ 1000000 := by have := HL.out.2; omega
    have wi1 := iwrap (i + 1) (by omega) (by omega)
    have wi2 := iwrap (i + 2) (by omega) (by omega)
    have wiL := iwrap (i + 1) (by omega) (by omega)
    by_cases hi : i < (s.size : Int)
    · have hd : decide (i < (s.size : Int)) = true := decide_eq_true hi
      have hx := bt_at s i
      cases hqi : (bt s i == 34) with
      | true =>
        have hres : Aside0 (R = some (i + 1)) := ⟨by rw [← HA.out.2.2.1]; exact qu_stop i00 hi (by unfold isQ; rw [hqi]; rfl)⟩
        have hst := HYo.to_string
        go_wp2_with (first | (go_at_call 15; (with_reducible refine (starts1_c s 34 34 i _ rfl (by decide) (by omega) (by omega) hs6).mono ?_); rintro e w' ⟨rfl, hw'⟩; obtain rfl := hw'.symm))
        (try simp only [Exit.inBlock, Exit.then]); refine bodyPost_ret (results_tmp3 rfl _ _ _ rfl rfl rfl) rfl ?_
        rw [hres.out]
        exact ⟨_, rfl, by rw [strOfNums_size]; have := HL.out.1; omega, HBo⟩
      | false =>
        have HQ : Aside0 (isQ s 34 1 i = false) := ⟨by unfold isQ; rw [hqi]; rfl⟩
        have n13 : (bt s i == 13) = false := beqf (by have := hT.rng i i00 hi; omega)
        cases h10 : (bt s i == 10) with
        | true =>
          have n92 : (bt s i == 92) = false := by rw [beq_iff_eq.1 h10]; rfl
          have hres : Aside0 (R = none) := ⟨by rw [← HA.out.2.2.1]; exact qu_feed i00 hi HQ.out n92 h10⟩
          go_wp2_with (first | (go_at_call 15; (with_reducible refine (starts1_c s 34 34 i _ rfl (by decide) (by omega) (by omega) hs6).mono ?_); rintro e w' ⟨rfl, hw'⟩; obtain rfl := hw'.symm))
          (try simp only [Exit.inBlock, Exit.then]); refine bodyPost_ret (results_tmp3 rfl _ _ _ rfl rfl rfl) rfl ?_
          rw [hres.out]
          exact ⟨_, _, rfl, HBo⟩
        | false =>
          cases h92 : (bt s i == 92) with
          | false =>
            have HNX : Aside0 (quoted s 34 1 raw bytes ((s.size : Int) - (i + 1)).toNat (i + 1) = R) := ⟨by rw [← HA.out.2.2.1]; exact (qu_next i00 hi HQ.out h92 (by rw [h10]; rfl)).symm⟩
            have HB1 := below_alloc HBo (.cells #[.int .u8 (bt s i)] 5)
            have HY1 := HYo.below (below_alloc (Below.refl _ wr) (.cells #[.int .u8 (bt s i)] 5))
            have HZ1 : ∀ j, j < 1 → (wr.alloc (.cells #[.int .u8 (bt s i)] 5)).cell? ⟨wr.heap.size, j, none⟩ = some (.int .u8 ([bt s i].getD j 0)) := fun j hj => by obtain rfl : j = 0 := (by omega); exact (blk_cell (blk_new wr _) 0).trans rfl
            have HS1 : w.heap.size ≤ (wr.alloc (.cells #[.int .u8 (bt s i)] 5)).heap.size := HB1.size
            have HZA := Aside0.mk HZ1
            clear HZ1
            go_wp2_with (first | (go_at_call 15; (with_reducible refine (starts1_c s 34 34 i _ rfl (by decide) (by omega) (by omega) hs6).mono ?_); rintro e w' ⟨rfl, hw'⟩; obtain rfl := hw'.symm) | (at_builtin; refine append_bytes w.heap.size rfl (.tmp 61) (.tmp 63) rfl _ ys wr.heap.size 1 1 [bt s i] rfl rfl rfl HZA.out HY1 HS1 hyl (by omega) (by omega) ?_; intro v1 w3 hB3 hg3))
            go_roundg (((s.size : Int) - (i + 1)).toNat + 1)
            case measure => have := HA.out.2.2.2; omega
            case rel => exact ⟨i + 1, _, _, rfl, rfl, ⟨by omega, by omega, HNX.out, by omega⟩, ⟨.inr ⟨by omega, by simp⟩, by have := HL.out.2; simp; omega⟩, ⟨hB3⟩, ⟨HB1.grown hg3 HB1.size (fun k hk => HYo.own k hk)⟩⟩
          | true =>
            cases raw with
            | true =>
              by_cases hi1 : i + 1 < (s.size : Int)
              · have hie : (i + 1 == (s.size : Int)) = false := beqf (by omega)
                have hx1 := bt_at s (i + 1)
                have i10 : 0 ≤ i + 1 := by omega
                have n10 : (bt s (i + 1) == 10) = false := beqf (hT.feed i i00 (beq_iff_eq.1 h92))
                have HNX : Aside0 (quoted s 34 1 true bytes ((s.size : Int) - (i + 2)).toNat (i + 2) = R) := ⟨by rw [← HA.out.2.2.1]; exact (qu_esc i00 hi HQ.out h92 (esx_raw hi1)).symm⟩
                have HB1 := below_alloc HBo (.cells #[.int .u8 (bt s i), .int .u8 (bt s (i + 1))] 5)
                have HY1 := HYo.below (below_alloc (Below.refl _ wr) (.cells #[.int .u8 (bt s i), .int .u8 (bt s (i + 1))] 5))
                have HZ1 : ∀ j, j < 2 → (wr.alloc (.cells #[.int .u8 (bt s i), .int .u8 (bt s (i + 1))] 5)).cell? ⟨wr.heap.size, j, none⟩ = some (.int .u8 ([bt s i, bt s (i + 1)].getD j 0)) := fun j hj => by
                  have hj : j = 0 ∨ j = 1 := by omega
                  rcases hj with rfl | rfl
                  · exact (blk_cell (blk_new wr _) 0).trans rfl
                  · exact (blk_cell (blk_new wr _) 1).trans rfl
                have HS1 : w.heap.size ≤ (wr.alloc (.cells #[.int .u8 (bt s i), .int .u8 (bt s (i + 1))] 5)).heap.size := HB1.size
                have HZA := Aside0.mk HZ1
                clear HZ1
                go_wp2_with (first | (go_at_call 15; (with_reducible refine (starts1_c s 34 34 i _ rfl (by decide) (by omega) (by omega) hs6).mono ?_); rintro e w' ⟨rfl, hw'⟩; obtain rfl := hw'.symm) | (at_builtin; refine append_bytes w.heap.size rfl (.tmp 107) (.tmp 113) rfl _ ys wr.heap.size 2 2 [bt s i, bt s (i + 1)] rfl rfl rfl HZA.out HY1 HS1 hyl (by omega) (by omega) ?_; intro v1 w3 hB3 hg3))
                go_roundg (((s.size : Int) - (i + 2)).toNat + 1)
                case measure => have := HA.out.2.2.2; omega
                case rel => exact ⟨i + 2, _, _, rfl, rfl, ⟨by omega, by omega, HNX.out, by omega⟩, ⟨.inr ⟨by omega, by simp⟩, by have := HL.out.2; simp; omega⟩, ⟨hB3⟩, ⟨HB1.grown hg3 HB1.size (fun k hk => HYo.own k hk)⟩⟩
              · have hie : (i + 1 == (s.size : Int)) = true := beq_iff_eq.2 (by omega)
                have hres : Aside0 (R = none) := ⟨by rw [← HA.out.2.2.1]; exact qu_esc_no i00 hi HQ.out h92 (esx_raw_no (by omega))⟩
                go_wp2_with (first | (go_at_call 15; (with_reducible refine (starts1_c s 34 34 i _ rfl (by decide) (by omega) (by omega) hs6).mono ?_); rintro e w' ⟨rfl, hw'⟩; obtain rfl := hw'.symm))
                (try simp only [Exit.inBlock, Exit.then]); refine bodyPost_ret (results_tmp3 rfl _ _ _ rfl rfl rfl) rfl ?_
                rw [hres.out]
                exact ⟨_, _, rfl, HBo⟩
            | false =>
              cases hesc : esc s false bytes i with
              | none =>
                have HES := Aside0.mk hesc
                have hres : Aside0 (R = none) := ⟨by rw [← HA.out.2.2.1]; exact qu_esc_no i00 hi HQ.out h92 hesc⟩
                clear hesc
                go_wp2_with (first | (go_at_call 15; (with_reducible refine (starts1_c s 34 34 i _ rfl (by decide) (by omega) (by omega) hs6).mono ?_); rintro e w' ⟨rfl, hw'⟩; obtain rfl := hw'.symm) | (go_at_call 59; (with_reducible refine (escape_c s i bytes _ i00 hi hs6).mono ?_); rintro e w' hn; rw [HES.out] at hn; obtain ⟨q5, rfl, hw'⟩ := hn; obtain rfl := hw'.symm))
                (try simp only [Exit.inBlock, Exit.then]); refine bodyPost_ret (results_tmp3 rfl _ _ _ rfl rfl rfl) rfl ?_
                rw [hres.out]
                exact ⟨_, _, rfl, HBo⟩
              | some e5 =>
                have HES := Aside0.mk hesc
                have hein := esc_in s false bytes i e5 i00 hesc
                have HNX : Aside0 (quoted s 34 1 false bytes ((s.size : Int) - e5).toNat e5 = R) := ⟨by rw [← HA.out.2.2.1]; exact (qu_esc i00 hi HQ.out h92 hesc).symm⟩
                have e51 := hein.1
                have e52 := hein.2
                clear hein hesc
                go_wp2_with (first | (go_at_call 15; (with_reducible refine (starts1_c s 34 34 i _ rfl (by decide) (by omega) (by omega) hs6).mono ?_); rintro e w' ⟨rfl, hw'⟩; obtain rfl := hw'.symm) | (go_at_call 59; (with_reducible refine (escape_c s i bytes _ i00 hi hs6).mono ?_); rintro e w5 hn; rw [HES.out] at hn; obtain ⟨g5, n5, cap5, zs, rfl, hO5, hz5, hn51, hn54, hB5⟩ := hn; have hBB5 := HBo.trans (hB5.mono HBo.size); have HY5 := HYo.below hB5; have hZ5 := Aside0.mk (hO5.cells5 hz5)) | (at_builtin; refine append_bytes w.heap.size rfl (.tmp 131) (.tmp 132) rfl _ ys g5 n5 cap5 zs rfl rfl hz5 hZ5.out HY5 hBB5.size hyl (by omega) (by omega) ?_; intro v1 w3 hB3 hg3))
                go_roundg (((s.size : Int) - e5).toNat + 1)
                case measure => have := HA.out.2.2.2; omega
                case rel => exact ⟨e5, _, _, rfl, rfl, ⟨by omega, by omega, HNX.out, by omega⟩, ⟨.inr ⟨by omega, by rw [List.length_append]; omega⟩, by have := HL.out.2; rw [List.length_append]; push_cast; omega⟩, ⟨hB3⟩, ⟨hBB5.grown hg3 hBB5.size (fun k hk => HYo.own k hk)⟩⟩
    · have hd : decide (i < (s.size : Int)) = false := decide_eq_false hi
      have hres : Aside0 (R = none) := ⟨by rw [← HA.out.2.2.1]; exact qu_end (by omega)⟩
      go_wp2
      (try simp only [Exit.inBlock, Exit.then]); refine bodyPost_ret (results_tmp3 rfl _ _ _ rfl rfl rfl) rfl ?_
      rw [hres.out]
      exact ⟨_, _, rfl, HBo⟩
set_option maxRecDepth 100000 in
set_option maxHeartbeats 8000000 in
theorem quoted_34_3 (s : ByteArray) (p : Int) (raw bytes : Bool) (w : World) (h0 : 0 ≤ p) (h1 : p < (s.size : Int)) (hT : Txt s) (hc : bt s p = 34) (h3 : (bt s (p + 1) == 34 && bt s (p + 2) == 34) = true) :
    Calls Tryz.prog 39 #[.string s, .int .i64 p, .bool raw, .bool bytes] w (QuotE 3 p (quoted s 34 3 raw bytes ((s.size : Int) - p).toNat (p + 3)) w) := by
  obtain ⟨R, hR⟩ : ∃ R, quoted s 34 3 raw bytes ((s.size : Int) - p).toNat (p + 3) = R := ⟨_, rfl⟩
  have hs := hT.size
  have hs6 : (s.size : Int) ≤ 1000000 := by omega
  have hin : p + 2 < (s.size : Int) := by simp only [Bool.and_eq_true, beq_iff_eq] at h3; exact bt_in h3.2 (by decide) (by omega)
  have h33 : (bt s p == 34 && (bt s (p + 1) == 34 && bt s (p + 2) == 34)) = true := by rw [hc, h3]; rfl
  clear h3
  have HR : Aside0 (quoted s 34 3 raw bytes ((s.size : Int) - (p + 3)).toNat (p + 3) = R) := ⟨by rw [← hR]; exact quoted_more s _ _ raw bytes _ _ (by omega) (Nat.le_refl _) _ (by omega)⟩
  rw [hR]
  clear hR
  have hq : s.extract p.toNat (p + 1).toNat = ⟨#[34]⟩ := mark_cut s p 34 h0 h1 (by decide) hc
  clear hc
  have wp1 := iwrap (p + 1) (by omega) (by omega)
  have wpL := iwrap (p + 3) (by omega) (by omega)
  have b1 : p ≤ p + 1 := by omega
  have b2 : p + 1 ≤ (s.size : Int) := by omega
  have b3 : 0 ≤ p + 1 := by omega
  have ha1 : (⟨#[34]⟩ : ByteArray) ++ ⟨#[34]⟩ = ⟨#[34, 34]⟩ := rfl
  have ha2 : (⟨#[34, 34]⟩ : ByteArray) ++ ⟨#[34]⟩ = ⟨#[34, 34, 34]⟩ := rfl
  go_enter Tryz.func39, Tryz.ntmps39
  go_wp2_with (first | (go_at_call 15; (with_reducible refine (starts3_c s 34 34 p _ rfl (by decide) (by omega) (by omega) hs6).mono ?_); rintro e w' ⟨rfl, hw'⟩; obtain rfl := hw'.symm))
  go_loopg [12, 13] (((s.size : Int) - (p + 3)).toNat + 1) (fun kq v12 v13 wr => ∃ (i : Int) (v : Value) (ys : List Int), v12 = v ∧ v13 = .int .i64 i ∧ Aside0 (p + 3 ≤ i ∧ i ≤ (s.size : Int) ∧ quoted s 34 3 raw bytes ((s.size : Int) - i).toNat i = R ∧ ((s.size : Int) - i).toNat < kq) ∧ Aside0 ((i = p + 3 ∧ ys.length = 0 ∨ p + 3 < i ∧ 0 < ys.length) ∧ (ys.length : Int) ≤ 4 * (i - (p + 3))) ∧ Aside0 (BRow wr w.heap.size v ys) ∧ Aside0 (Below w.heap.size w wr))
  case atStart => exact ⟨p + 3, _, [], rfl, rfl, ⟨by omega, by omega, HR.out, by omega⟩, ⟨.inl ⟨rfl, rfl⟩, by simp⟩, ⟨BRow.nil _ _⟩, ⟨Below.refl _ _⟩⟩
  case round =>
    obtain ⟨i, v, ys, rfl, rfl, HA, HL, HY, HB⟩ := hrel
    have HBo := HB.out
    have HYo := HY.out
    obtain ⟨A, C, hv⟩ := HYo.shape
    obtain rfl := hv
    have i0 := HA.out.1
    have i00 : 0 ≤ i := by omega
    have i1 := HA.out.2.1
    have hyl : ys.length ≤ 1000000 := by have := HL.out.2; omega
    have wi1 := iwrap (i + 1) (by omega) (by omega)
    have wi2 := iwrap (i + 2) (by omega) (by omega)
    have wiL := iwrap (i + 3) (by omega) (by omega)
    by_cases hi : i < (s.size : Int)
    · have hd : decide (i < (s.size : Int)) = true := decide_eq_true hi
      have hx := bt_at s i
      cases hqi : (bt s i == 34 && (bt s (i + 1) == 34 && bt s (i + 2) == 34)) with
      | true =>
        have hres : Aside0 (R = some (i + 3)) := ⟨by rw [← HA.out.2.2.1]; exact qu_stop i00 hi (by unfold isQ; simp only [Bool.and_eq_true] at hqi ⊢; exact ⟨hqi.1, by rw [hqi.2.1, hqi.2.2]; rfl⟩)⟩
        have hst := HYo.to_string
        go_wp2_with (first | (go_at_call 15; (with_reducible refine (starts3_c s 34 34 i _ rfl (by decide) (by omega) (by omega) hs6).mono ?_); rintro e w' ⟨rfl, hw'⟩; obtain rfl := hw'.symm))
        (try simp only [Exit.inBlock, Exit.then]); refine bodyPost_ret (results_tmp3 rfl _ _ _ rfl rfl rfl) rfl ?_
        rw [hres.out]
        exact ⟨_, rfl, by rw [strOfNums_size]; have := HL.out.1; omega, HBo⟩
      | false =>
        have HQ : Aside0 (isQ s 34 3 i = false) := ⟨by unfold isQ; revert hqi; cases (bt s i == 34) <;> cases (bt s (i + 1) == 34) <;> cases (bt s (i + 2) == 34) <;> simp⟩
        have n13 : (bt s i == 13) = false := beqf (by have := hT.rng i i00 hi; omega)
        cases h10 : (bt s i == 10) with
        | true =>
          have n92 : (bt s i == 92) = false := by rw [beq_iff_eq.1 h10]; rfl
          have HNX : Aside0 (quoted s 34 3 raw bytes ((s.size : Int) - (i + 1)).toNat (i + 1) = R) := ⟨by rw [← HA.out.2.2.1]; exact (qu_next i00 hi HQ.out n92 (by rw [h10]; rfl)).symm⟩
          have HB1 := below_alloc HBo (.cells #[.int .u8 (bt s i)] 5)
          have HY1 := HYo.below (below_alloc (Below.refl _ wr) (.cells #[.int .u8 (bt s i)] 5))
          have HZ1 : ∀ j, j < 1 → (wr.alloc (.cells #[.int .u8 (bt s i)] 5)).cell? ⟨wr.heap.size, j, none⟩ = some (.int .u8 ([bt s i].getD j 0)) := fun j hj => by obtain rfl : j = 0 := (by omega); exact (blk_cell (blk_new wr _) 0).trans rfl
          have HS1 : w.heap.size ≤ (wr.alloc (.cells #[.int .u8 (bt s i)] 5)).heap.size := HB1.size
          have HZA := Aside0.mk HZ1
          clear HZ1
          go_wp2_with (first | (go_at_call 15; (with_reducible refine (starts3_c s 34 34 i _ rfl (by decide) (by omega) (by omega) hs6).mono ?_); rintro e w' ⟨rfl, hw'⟩; obtain rfl := hw'.symm) | (at_builtin; refine append_bytes w.heap.size rfl (.tmp 61) (.tmp 63) rfl _ ys wr.heap.size 1 1 [bt s i] rfl rfl rfl HZA.out HY1 HS1 hyl (by omega) (by omega) ?_; intro v1 w3 hB3 hg3))
          go_roundg (((s.size : Int) - (i + 1)).toNat + 1)
          case measure => have := HA.out.2.2.2; omega
          case rel => exact ⟨i + 1, _, _, rfl, rfl, ⟨by omega, by omega, HNX.out, by omega⟩, ⟨.inr ⟨by omega, by simp⟩, by have := HL.out.2; simp; omega⟩, ⟨hB3⟩, ⟨HB1.grown hg3 HB1.size (fun k hk => HYo.own k hk)⟩⟩
        | false =>
          cases h92 : (bt s i == 92) with
          | false =>
            have HNX : Aside0 (quoted s 34 3 raw bytes ((s.size : Int) - (i + 1)).toNat (i + 1) = R) := ⟨by rw [← HA.out.2.2.1]; exact (qu_next i00 hi HQ.out h92 (by rw [h10]; rfl)).symm⟩
            have HB1 := below_alloc HBo (.cells #[.int .u8 (bt s i)] 5)
            have HY1 := HYo.below (below_alloc (Below.refl _ wr) (.cells #[.int .u8 (bt s i)] 5))
            have HZ1 : ∀ j, j < 1 → (wr.alloc (.cells #[.int .u8 (bt s i)] 5)).cell? ⟨wr.heap.size, j, none⟩ = some (.int .u8 ([bt s i].getD j 0)) := fun j hj => by obtain rfl : j = 0 := (by omega); exact (blk_cell (blk_new wr _) 0).trans rfl
            have HS1 : w.heap.size ≤ (wr.alloc (.cells #[.int .u8 (bt s i)] 5)).heap.size := HB1.size
            have HZA := Aside0.mk HZ1
            clear HZ1
            go_wp2_with (first | (go_at_call 15; (with_reducible refine (starts3_c s 34 34 i _ rfl (by decide) (by omega) (by omega) hs6).mono ?_); rintro e w' ⟨rfl, hw'⟩; obtain rfl := hw'.symm) | (at_builtin; refine append_bytes w.heap.size rfl (.tmp 61) (.tmp 63) rfl _ ys wr.heap.size 1 1 [bt s i] rfl rfl rfl HZA.out HY1 HS1 hyl (by omega) (by omega) ?_; intro v1 w3 hB3 hg3))
            go_roundg (((s.size : Int) - (i + 1)).toNat + 1)
            case measure => have := HA.out.2.2.2; omega
            case rel => exact ⟨i + 1, _, _, rfl, rfl, ⟨by omega, by omega, HNX.out, by omega⟩, ⟨.inr ⟨by omega, by simp⟩, by have := HL.out.2; simp; omega⟩, ⟨hB3⟩, ⟨HB1.grown hg3 HB1.size (fun k hk => HYo.own k hk)⟩⟩
          | true =>
            cases raw with
            | true =>
              by_cases hi1 : i + 1 < (s.size : Int)
              · have hie : (i + 1 == (s.size : Int)) = false := beqf (by omega)
                have hx1 := bt_at s (i + 1)
                have i10 : 0 ≤ i + 1 := by omega
                have n10 : (bt s (i + 1) == 10) = false := beqf (hT.feed i i00 (beq_iff_eq.1 h92))
                have HNX : Aside0 (quoted s 34 3 true bytes ((s.size : Int) - (i + 2)).toNat (i + 2) = R) := ⟨by rw [← HA.out.2.2.1]; exact (qu_esc i00 hi HQ.out h92 (esx_raw hi1)).symm⟩
                have HB1 := below_alloc HBo (.cells #[.int .u8 (bt s i), .int .u8 (bt s (i + 1))] 5)
                have HY1 := HYo.below (below_alloc (Below.refl _ wr) (.cells #[.int .u8 (bt s i), .int .u8 (bt s (i + 1))] 5))
                have HZ1 : ∀ j, j < 2 → (wr.alloc (.cells #[.int .u8 (bt s i), .int .u8 (bt s (i + 1))] 5)).cell? ⟨wr.heap.size, j, none⟩ = some (.int .u8 ([bt s i, bt s (i + 1)].getD j 0)) := fun j hj => by
                  have hj : j = 0 ∨ j = 1 := by omega
                  rcases hj with rfl | rfl
                  · exact (blk_cell (blk_new wr _) 0).trans rfl
                  · exact (blk_cell (blk_new wr _) 1).trans rfl
                have HS1 : w.heap.size ≤ (wr.alloc (.cells #[.int .u8 (bt s i), .int .u8 (bt s (i + 1))] 5)).heap.size := HB1.size
                have HZA := Aside0.mk HZ1
                clear HZ1
                go_wp2_with (first | (go_at_call 15; (with_reducible refine (starts3_c s 34 34 i _ rfl (by decide) (by omega) (by omega) hs6).mono ?_); rintro e w' ⟨rfl, hw'⟩; obtain rfl := hw'.symm) | (at_builtin; refine append_bytes w.heap.size rfl (.tmp 107) (.tmp 113) rfl _ ys wr.heap.size 2 2 [bt s i, bt s (i + 1)] rfl rfl rfl HZA.out HY1 HS1 hyl (by omega) (by omega) ?_; intro v1 w3 hB3 hg3))
                go_roundg (((s.size : Int) - (i + 2)).toNat + 1)
                case measure => have := HA.out.2.2.2; omega
                case rel => exact ⟨i + 2, _, _, rfl, rfl, ⟨by omega, by omega, HNX.out, by omega⟩, ⟨.inr ⟨by omega, by simp⟩, by have := HL.out.2; simp; omega⟩, ⟨hB3⟩, ⟨HB1.grown hg3 HB1.size (fun k hk => HYo.own k hk)⟩⟩
              · have hie : (i + 1 == (s.size : Int)) = true := beq_iff_eq.2 (by omega)
                have hres : Aside0 (R = none) := ⟨by rw [← HA.out.2.2.1]; exact qu_esc_no i00 hi HQ.out h92 (esx_raw_no (by omega))⟩
                go_wp2_with (first | (go_at_call 15; (with_reducible refine (starts3_c s 34 34 i _ rfl (by decide) (by omega) (by omega) hs6).mono ?_); rintro e w' ⟨rfl, hw'⟩; obtain rfl := hw'.symm))
                (try simp only [Exit.inBlock, Exit.then]); refine bodyPost_ret (results_tmp3 rfl _ _ _ rfl rfl rfl) rfl ?_
                rw [hres.out]
                exact ⟨_, _, rfl, HBo⟩
            | false =>
              cases hesc : esc s false bytes i with
              | none =>
                have HES := Aside0.mk hesc
                have hres : Aside0 (R = none) := ⟨by rw [← HA.out.2.2.1]; exact qu_esc_no i00 hi HQ.out h92 hesc⟩
                clear hesc
                go_wp2_with (first | (go_at_call 15; (with_reducible refine (starts3_c s 34 34 i _ rfl (by decide) (by omega) (by omega) hs6).mono ?_); rintro e w' ⟨rfl, hw'⟩; obtain rfl := hw'.symm) | (go_at_call 59; (with_reducible refine (escape_c s i bytes _ i00 hi hs6).mono ?_); rintro e w' hn; rw [HES.out] at hn; obtain ⟨q5, rfl, hw'⟩ := hn; obtain rfl := hw'.symm))
                (try simp only [Exit.inBlock, Exit.then]); refine bodyPost_ret (results_tmp3 rfl _ _ _ rfl rfl rfl) rfl ?_
                rw [hres.out]
                exact ⟨_, _, rfl, HBo⟩
              | some e5 =>
                have HES := Aside0.mk hesc
                have hein := esc_in s false bytes i e5 i00 hesc
                have HNX : Aside0 (quoted s 34 3 false bytes ((s.size : Int) - e5).toNat e5 = R) := ⟨by rw [← HA.out.2.2.1]; exact (qu_esc i00 hi HQ.out h92 hesc).symm⟩
                have e51 := hein.1
                have e52 := hein.2
                clear hein hesc
                go_wp2_with (first | (go_at_call 15; (with_reducible refine (starts3_c s 34 34 i _ rfl (by decide) (by omega) (by omega) hs6).mono ?_); rintro e w' ⟨rfl, hw'⟩; obtain rfl := hw'.symm) | (go_at_call 59; (with_reducible refine (escape_c s i bytes _ i00 hi hs6).mono ?_); rintro e w5 hn; rw [HES.out] at hn; obtain ⟨g5, n5, cap5, zs, rfl, hO5, hz5, hn51, hn54, hB5⟩ := hn; have hBB5 := HBo.trans (hB5.mono HBo.size); have HY5 := HYo.below hB5; have hZ5 := Aside0.mk (hO5.cells5 hz5)) | (at_builtin; refine append_bytes w.heap.size rfl (.tmp 131) (.tmp 132) rfl _ ys g5 n5 cap5 zs rfl rfl hz5 hZ5.out HY5 hBB5.size hyl (by omega) (by omega) ?_; intro v1 w3 hB3 hg3))
                go_roundg (((s.size : Int) - e5).toNat + 1)
                case measure => have := HA.out.2.2.2; omega
                case rel => exact ⟨e5, _, _, rfl, rfl, ⟨by omega, by omega, HNX.out, by omega⟩, ⟨.inr ⟨by omega, by rw [List.length_append]; omega⟩, by have := HL.out.2; rw [List.length_append]; push_cast; omega⟩, ⟨hB3⟩, ⟨hBB5.grown hg3 hBB5.size (fun k hk => HYo.own k hk)⟩⟩
    · have hd : decide (i < (s.size : Int)) = false := decide_eq_false hi
      have hres : Aside0 (R = none) := ⟨by rw [← HA.out.2.2.1]; exact qu_end (by omega)⟩
      go_wp2
      (try simp only [Exit.inBlock, Exit.then]); refine bodyPost_ret (results_tmp3 rfl _ _ _ rfl rfl rfl) rfl ?_
      rw [hres.out]
      exact ⟨_, _, rfl, HBo⟩
set_option maxRecDepth 100000 in
set_option maxHeartbeats 8000000 in
theorem quoted_39_1 (s : ByteArray) (p : Int) (raw bytes : Bool) (w : World) (h0 : 0 ≤ p) (h1 : p < (s.size : Int)) (hT : Txt s) (hc : bt s p = 39) (h3 : (bt s (p + 1) == 39 && bt s (p + 2) == 39) = false) :
    Calls Tryz.prog 39 #[.string s, .int .i64 p, .bool raw, .bool bytes] w (QuotE 1 p (quoted s 39 1 raw bytes ((s.size : Int) - p).toNat (p + 1)) w) := by
  obtain ⟨R, hR⟩ : ∃ R, quoted s 39 1 raw bytes ((s.size : Int) - p).toNat (p + 1) = R := ⟨_, rfl⟩
  have hs := hT.size
  have hs6 : (s.size : Int) ≤ 1000000 := by omega
  have h33 : (bt s p == 39 && (bt s (p + 1) == 39 && bt s (p + 2) == 39)) = false := by rw [h3, Bool.and_false]
  clear h3
  have HR : Aside0 (quoted s 39 1 raw bytes ((s.size : Int) - (p + 1)).toNat (p + 1) = R) := ⟨by rw [← hR]; exact quoted_more s _ _ raw bytes _ _ (by omega) (Nat.le_refl _) _ (by omega)⟩
  rw [hR]
  clear hR
  have hq : s.extract p.toNat (p + 1).toNat = ⟨#[39]⟩ := mark_cut s p 39 h0 h1 (by decide) hc
  clear hc
  have wp1 := iwrap (p + 1) (by omega) (by omega)
  have wpL := iwrap (p + 1) (by omega) (by omega)
  have b1 : p ≤ p + 1 := by omega
  have b2 : p + 1 ≤ (s.size : Int) := by omega
  have b3 : 0 ≤ p + 1 := by omega
  have ha1 : (⟨#[39]⟩ : ByteArray) ++ ⟨#[39]⟩ = ⟨#[39, 39]⟩ := rfl
  have ha2 : (⟨#[39, 39]⟩ : ByteArray) ++ ⟨#[39]⟩ = ⟨#[39, 39, 39]⟩ := rfl
  go_enter Tryz.func39, Tryz.ntmps39
  go_wp2_with (first | (go_at_call 15; (with_reducible refine (starts3_c s 39 39 p _ rfl (by decide) (by omega) (by omega) hs6).mono ?_); rintro e w' ⟨rfl, hw'⟩; obtain rfl := hw'.symm))
  go_loopg [12, 13] (((s.size : Int) - (p + 1)).toNat + 1) (fun kq v12 v13 wr => ∃ (i : Int) (v : Value) (ys : List Int), v12 = v ∧ v13 = .int .i64 i ∧ Aside0 (p + 1 ≤ i ∧ i ≤ (s.size : Int) ∧ quoted s 39 1 raw bytes ((s.size : Int) - i).toNat i = R ∧ ((s.size : Int) - i).toNat < kq) ∧ Aside0 ((i = p + 1 ∧ ys.length = 0 ∨ p + 1 < i ∧ 0 < ys.length) ∧ (ys.length : Int) ≤ 4 * (i - (p + 1))) ∧ Aside0 (BRow wr w.heap.size v ys) ∧ Aside0 (Below w.heap.size w wr))
  case atStart => exact ⟨p + 1, _, [], rfl, rfl, ⟨by omega, by omega, HR.out, by omega⟩, ⟨.inl ⟨rfl, rfl⟩, by simp⟩, ⟨BRow.nil _ _⟩, ⟨Below.refl _ _⟩⟩
  case round =>
    obtain ⟨i, v, ys, rfl, rfl, HA, HL, HY, HB⟩ := hrel
    have HBo := HB.out
    have HYo := HY.out
    obtain ⟨A, C, hv⟩ := HYo.shape
    obtain rfl := hv
    have i0 := HA.out.1
    have i00 : 0 ≤ i := by omega
    have i1 := HA.out.2.1
    have hyl : ys.length ≤ 1000000 := by have := HL.out.2; omega
    have wi1 := iwrap (i + 1) (by omega) (by omega)
    have wi2 := iwrap (i + 2) (by omega) (by omega)
    have wiL := iwrap (i + 1) (by omega) (by omega)
    by_cases hi : i < (s.size : Int)
    · have hd : decide (i < (s.size : Int)) = true := decide_eq_true hi
      have hx := bt_at s i
      cases hqi : (bt s i == 39) with
      | true =>
        have hres : Aside0 (R = some (i + 1)) := ⟨by rw [← HA.out.2.2.1]; exact qu_stop i00 hi (by unfold isQ; rw [hqi]; rfl)⟩
        have hst := HYo.to_string
        go_wp2_with (first | (go_at_call 15; (with_reducible refine (starts1_c s 39 39 i _ rfl (by decide) (by omega) (by omega) hs6).mono ?_); rintro e w' ⟨rfl, hw'⟩; obtain rfl := hw'.symm))
        (try simp only [Exit.inBlock, Exit.then]); refine bodyPost_ret (results_tmp3 rfl _ _ _ rfl rfl rfl) rfl ?_
        rw [hres.out]
        exact ⟨_, rfl, by rw [strOfNums_size]; have := HL.out.1; omega, HBo⟩
      | false =>
        have HQ : Aside0 (isQ s 39 1 i = false) := ⟨by unfold isQ; rw [hqi]; rfl⟩
        have n13 : (bt s i == 13) = false := beqf (by have := hT.rng i i00 hi; omega)
        cases h10 : (bt s i == 10) with
        | true =>
          have n92 : (bt s i == 92) = false := by rw [beq_iff_eq.1 h10]; rfl
          have hres : Aside0 (R = none) := ⟨by rw [← HA.out.2.2.1]; exact qu_feed i00 hi HQ.out n92 h10⟩
          go_wp2_with (first | (go_at_call 15; (with_reducible refine (starts1_c s 39 39 i _ rfl (by decide) (by omega) (by omega) hs6).mono ?_); rintro e w' ⟨rfl, hw'⟩; obtain rfl := hw'.symm))
          (try simp only [Exit.inBlock, Exit.then]); refine bodyPost_ret (results_tmp3 rfl _ _ _ rfl rfl rfl) rfl ?_
          rw [hres.out]
          exact ⟨_, _, rfl, HBo⟩
        | false =>
          cases h92 : (bt s i == 92) with
          | false =>
            have HNX : Aside0 (quoted s 39 1 raw bytes ((s.size : Int) - (i + 1)).toNat (i + 1) = R) := ⟨by rw [← HA.out.2.2.1]; exact (qu_next i00 hi HQ.out h92 (by rw [h10]; rfl)).symm⟩
            have HB1 := below_alloc HBo (.cells #[.int .u8 (bt s i)] 5)
            have HY1 := HYo.below (below_alloc (Below.refl _ wr) (.cells #[.int .u8 (bt s i)] 5))
            have HZ1 : ∀ j, j < 1 → (wr.alloc (.cells #[.int .u8 (bt s i)] 5)).cell? ⟨wr.heap.size, j, none⟩ = some (.int .u8 ([bt s i].getD j 0)) := fun j hj => by obtain rfl : j = 0 := (by omega); exact (blk_cell (blk_new wr _) 0).trans rfl
            have HS1 : w.heap.size ≤ (wr.alloc (.cells #[.int .u8 (bt s i)] 5)).heap.size := HB1.size
            have HZA := Aside0.mk HZ1
            clear HZ1
            go_wp2_with (first | (go_at_call 15; (with_reducible refine (starts1_c s 39 39 i _ rfl (by decide) (by omega) (by omega) hs6).mono ?_); rintro e w' ⟨rfl, hw'⟩; obtain rfl := hw'.symm) | (at_builtin; refine append_bytes w.heap.size rfl (.tmp 61) (.tmp 63) rfl _ ys wr.heap.size 1 1 [bt s i] rfl rfl rfl HZA.out HY1 HS1 hyl (by omega) (by omega) ?_; intro v1 w3 hB3 hg3))
            go_roundg (((s.size : Int) - (i + 1)).toNat + 1)
            case measure => have := HA.out.2.2.2; omega
            case rel => exact ⟨i + 1, _, _, rfl, rfl, ⟨by omega, by omega, HNX.out, by omega⟩, ⟨.inr ⟨by omega, by simp⟩, by have := HL.out.2; simp; omega⟩, ⟨hB3⟩, ⟨HB1.grown hg3 HB1.size (fun k hk => HYo.own k hk)⟩⟩
          | true =>
            cases raw with
            | true =>
              by_cases hi1 : i + 1 < (s.size : Int)
              · have hie : (i + 1 == (s.size : Int)) = false := beqf (by omega)
                have hx1 := bt_at s (i + 1)
                have i10 : 0 ≤ i + 1 := by omega
                have n10 : (bt s (i + 1) == 10) = false := beqf (hT.feed i i00 (beq_iff_eq.1 h92))
                have HNX : Aside0 (quoted s 39 1 true bytes ((s.size : Int) - (i + 2)).toNat (i + 2) = R) := ⟨by rw [← HA.out.2.2.1]; exact (qu_esc i00 hi HQ.out h92 (esx_raw hi1)).symm⟩
                have HB1 := below_alloc HBo (.cells #[.int .u8 (bt s i), .int .u8 (bt s (i + 1))] 5)
                have HY1 := HYo.below (below_alloc (Below.refl _ wr) (.cells #[.int .u8 (bt s i), .int .u8 (bt s (i + 1))] 5))
                have HZ1 : ∀ j, j < 2 → (wr.alloc (.cells #[.int .u8 (bt s i), .int .u8 (bt s (i + 1))] 5)).cell? ⟨wr.heap.size, j, none⟩ = some (.int .u8 ([bt s i, bt s (i + 1)].getD j 0)) := fun j hj => by
                  have hj : j = 0 ∨ j = 1 := by omega
                  rcases hj with rfl | rfl
                  · exact (blk_cell (blk_new wr _) 0).trans rfl
                  · exact (blk_cell (blk_new wr _) 1).trans rfl
                have HS1 : w.heap.size ≤ (wr.alloc (.cells #[.int .u8 (bt s i), .int .u8 (bt s (i + 1))] 5)).heap.size := HB1.size
                have HZA := Aside0.mk HZ1
                clear HZ1
                go_wp2_with (first | (go_at_call 15; (with_reducible refine (starts1_c s 39 39 i _ rfl (by decide) (by omega) (by omega) hs6).mono ?_); rintro e w' ⟨rfl, hw'⟩; obtain rfl := hw'.symm) | (at_builtin; refine append_bytes w.heap.size rfl (.tmp 107) (.tmp 113) rfl _ ys wr.heap.size 2 2 [bt s i, bt s (i + 1)] rfl rfl rfl HZA.out HY1 HS1 hyl (by omega) (by omega) ?_; intro v1 w3 hB3 hg3))
                go_roundg (((s.size : Int) - (i + 2)).toNat + 1)
                case measure => have := HA.out.2.2.2; omega
                case rel => exact ⟨i + 2, _, _, rfl, rfl, ⟨by omega, by omega, HNX.out, by omega⟩, ⟨.inr ⟨by omega, by simp⟩, by have := HL.out.2; simp; omega⟩, ⟨hB3⟩, ⟨HB1.grown hg3 HB1.size (fun k hk => HYo.own k hk)⟩⟩
              · have hie : (i + 1 == (s.size : Int)) = true := beq_iff_eq.2 (by omega)
                have hres : Aside0 (R = none) := ⟨by rw [← HA.out.2.2.1]; exact qu_esc_no i00 hi HQ.out h92 (esx_raw_no (by omega))⟩
                go_wp2_with (first | (go_at_call 15; (with_reducible refine (starts1_c s 39 39 i _ rfl (by decide) (by omega) (by omega) hs6).mono ?_); rintro e w' ⟨rfl, hw'⟩; obtain rfl := hw'.symm))
                (try simp only [Exit.inBlock, Exit.then]); refine bodyPost_ret (results_tmp3 rfl _ _ _ rfl rfl rfl) rfl ?_
                rw [hres.out]
                exact ⟨_, _, rfl, HBo⟩
            | false =>
              cases hesc : esc s false bytes i with
              | none =>
                have HES := Aside0.mk hesc
                have hres : Aside0 (R = none) := ⟨by rw [← HA.out.2.2.1]; exact qu_esc_no i00 hi HQ.out h92 hesc⟩
                clear hesc
                go_wp2_with (first | (go_at_call 15; (with_reducible refine (starts1_c s 39 39 i _ rfl (by decide) (by omega) (by omega) hs6).mono ?_); rintro e w' ⟨rfl, hw'⟩; obtain rfl := hw'.symm) | (go_at_call 59; (with_reducible refine (escape_c s i bytes _ i00 hi hs6).mono ?_); rintro e w' hn; rw [HES.out] at hn; obtain ⟨q5, rfl, hw'⟩ := hn; obtain rfl := hw'.symm))
                (try simp only [Exit.inBlock, Exit.then]); refine bodyPost_ret (results_tmp3 rfl _ _ _ rfl rfl rfl) rfl ?_
                rw [hres.out]
                exact ⟨_, _, rfl, HBo⟩
              | some e5 =>
                have HES := Aside0.mk hesc
                have hein := esc_in s false bytes i e5 i00 hesc
                have HNX : Aside0 (quoted s 39 1 false bytes ((s.size : Int) - e5).toNat e5 = R) := ⟨by rw [← HA.out.2.2.1]; exact (qu_esc i00 hi HQ.out h92 hesc).symm⟩
                have e51 := hein.1
                have e52 := hein.2
                clear hein hesc
                go_wp2_with (first | (go_at_call 15; (with_reducible refine (starts1_c s 39 39 i _ rfl (by decide) (by omega) (by omega) hs6).mono ?_); rintro e w' ⟨rfl, hw'⟩; obtain rfl := hw'.symm) | (go_at_call 59; (with_reducible refine (escape_c s i bytes _ i00 hi hs6).mono ?_); rintro e w5 hn; rw [HES.out] at hn; obtain ⟨g5, n5, cap5, zs, rfl, hO5, hz5, hn51, hn54, hB5⟩ := hn; have hBB5 := HBo.trans (hB5.mono HBo.size); have HY5 := HYo.below hB5; have hZ5 := Aside0.mk (hO5.cells5 hz5)) | (at_builtin; refine append_bytes w.heap.size rfl (.tmp 131) (.tmp 132) rfl _ ys g5 n5 cap5 zs rfl rfl hz5 hZ5.out HY5 hBB5.size hyl (by omega) (by omega) ?_; intro v1 w3 hB3 hg3))
                go_roundg (((s.size : Int) - e5).toNat + 1)
                case measure => have := HA.out.2.2.2; omega
                case rel => exact ⟨e5, _, _, rfl, rfl, ⟨by omega, by omega, HNX.out, by omega⟩, ⟨.inr ⟨by omega, by rw [List.length_append]; omega⟩, by have := HL.out.2; rw [List.length_append]; push_cast; omega⟩, ⟨hB3⟩, ⟨hBB5.grown hg3 hBB5.size (fun k hk => HYo.own k hk)⟩⟩
    · have hd : decide (i < (s.size : Int)) = false := decide_eq_false hi
      have hres : Aside0 (R = none) := ⟨by rw [← HA.out.2.2.1]; exact qu_end (by omega)⟩
      go_wp2
      (try simp only [Exit.inBlock, Exit.then]); refine bodyPost_ret (results_tmp3 rfl _ _ _ rfl rfl rfl) rfl ?_
      rw [hres.out]
      exact ⟨_, _, rfl, HBo⟩
set_option maxRecDepth 100000 in
set_option maxHeartbeats 8000000 in
theorem quoted_39_3 (s : ByteArray) (p : Int) (raw bytes : Bool) (w : World) (h0 : 0 ≤ p) (h1 : p < (s.size : Int)) (hT : Txt s) (hc : bt s p = 39) (h3 : (bt s (p + 1) == 39 && bt s (p + 2) == 39) = true) :
    Calls Tryz.prog 39 #[.string s, .int .i64 p, .bool raw, .bool bytes] w (QuotE 3 p (quoted s 39 3 raw bytes ((s.size : Int) - p).toNat (p + 3)) w) := by
  obtain ⟨R, hR⟩ : ∃ R, quoted s 39 3 raw bytes ((s.size : Int) - p).toNat (p + 3) = R := ⟨_, rfl⟩
  have hs := hT.size
  have hs6 : (s.size : Int) ≤ 1000000 := by omega
  have hin : p + 2 < (s.size : Int) := by simp only [Bool.and_eq_true, beq_iff_eq] at h3; exact bt_in h3.2 (by decide) (by omega)
  have h33 : (bt s p == 39 && (bt s (p + 1) == 39 && bt s (p + 2) == 39)) = true := by rw [hc, h3]; rfl
  clear h3
  have HR : Aside0 (quoted s 39 3 raw bytes ((s.size : Int) - (p + 3)).toNat (p + 3) = R) := ⟨by rw [← hR]; exact quoted_more s _ _ raw bytes _ _ (by omega) (Nat.le_refl _) _ (by omega)⟩
  rw [hR]
  clear hR
  have hq : s.extract p.toNat (p + 1).toNat = ⟨#[39]⟩ := mark_cut s p 39 h0 h1 (by decide) hc
  clear hc
  have wp1 := iwrap (p + 1) (by omega) (by omega)
  have wpL := iwrap (p + 3) (by omega) (by omega)
  have b1 : p ≤ p + 1 := by omega
  have b2 : p + 1 ≤ (s.size : Int) := by omega
  have b3 : 0 ≤ p + 1 := by omega
  have ha1 : (⟨#[39]⟩ : ByteArray) ++ ⟨#[39]⟩ = ⟨#[39, 39]⟩ := rfl
  have ha2 : (⟨#[39, 39]⟩ : ByteArray) ++ ⟨#[39]⟩ = ⟨#[39, 39, 39]⟩ := rfl
  go_enter Tryz.func39, Tryz.ntmps39
  go_wp2_with (first | (go_at_call 15; (with_reducible refine (starts3_c s 39 39 p _ rfl (by decide) (by omega) (by omega) hs6).mono ?_); rintro e w' ⟨rfl, hw'⟩; obtain rfl := hw'.symm))
  go_loopg [12, 13] (((s.size : Int) - (p + 3)).toNat + 1) (fun kq v12 v13 wr => ∃ (i : Int) (v : Value) (ys : List Int), v12 = v ∧ v13 = .int .i64 i ∧ Aside0 (p + 3 ≤ i ∧ i ≤ (s.size : Int) ∧ quoted s 39 3 raw bytes ((s.size : Int) - i).toNat i = R ∧ ((s.size : Int) - i).toNat < kq) ∧ Aside0 ((i = p + 3 ∧ ys.length = 0 ∨ p + 3 < i ∧ 0 < ys.length) ∧ (ys.length : Int) ≤ 4 * (i - (p + 3))) ∧ Aside0 (BRow wr w.heap.size v ys) ∧ Aside0 (Below w.heap.size w wr))
  case atStart => exact ⟨p + 3, _, [], rfl, rfl, ⟨by omega, by omega, HR.out, by omega⟩, ⟨.inl ⟨rfl, rfl⟩, by simp⟩, ⟨BRow.nil _ _⟩, ⟨Below.refl _ _⟩⟩
  case round =>
    obtain ⟨i, v, ys, rfl, rfl, HA, HL, HY, HB⟩ := hrel
    have HBo := HB.out
    have HYo := HY.out
    obtain ⟨A, C, hv⟩ := HYo.shape
    obtain rfl := hv
    have i0 := HA.out.1
    have i00 : 0 ≤ i := by omega
    have i1 := HA.out.2.1
    have hyl : ys.length ≤ 1000000 := by have := HL.out.2; omega
    have wi1 := iwrap (i + 1) (by omega) (by omega)
    have wi2 := iwrap (i + 2) (by omega) (by omega)
    have wiL := iwrap (i + 3) (by omega) (by omega)
    by_cases hi : i < (s.size : Int)
    · have hd : decide (i < (s.size : Int)) = true := decide_eq_true hi
      have hx := bt_at s i
      cases hqi : (bt s i == 39 && (bt s (i + 1) == 39 && bt s (i + 2) == 39)) with
      | true =>
        have hres : Aside0 (R = some (i + 3)) := ⟨by rw [← HA.out.2.2.1]; exact qu_stop i00 hi (by unfold isQ; simp only [Bool.and_eq_true] at hqi ⊢; exact ⟨hqi.1, by rw [hqi.2.1, hqi.2.2]; rfl⟩)⟩
        have hst := HYo.to_string
        go_wp2_with (first | (go_at_call 15; (with_reducible refine (starts3_c s 39 39 i _ rfl (by decide) (by omega) (by omega) hs6).mono ?_); rintro e w' ⟨rfl, hw'⟩; obtain rfl := hw'.symm))
        (try simp only [Exit.inBlock, Exit.then]); refine bodyPost_ret (results_tmp3 rfl _ _ _ rfl rfl rfl) rfl ?_
        rw [hres.out]
        exact ⟨_, rfl, by rw [strOfNums_size]; have := HL.out.1; omega, HBo⟩
      | false =>
        have HQ : Aside0 (isQ s 39 3 i = false) := ⟨by unfold isQ; revert hqi; cases (bt s i == 39) <;> cases (bt s (i + 1) == 39) <;> cases (bt s (i + 2) == 39) <;> simp⟩
        have n13 : (bt s i == 13) = false := beqf (by have := hT.rng i i00 hi; omega)
        cases h10 : (bt s i == 10) with
        | true =>
          have n92 : (bt s i == 92) = false := by rw [beq_iff_eq.1 h10]; rfl
          have HNX : Aside0 (quoted s 39 3 raw bytes ((s.size : Int) - (i + 1)).toNat (i + 1) = R) := ⟨by rw [← HA.out.2.2.1]; exact (qu_next i00 hi HQ.out n92 (by rw [h10]; rfl)).symm⟩
          have HB1 := below_alloc HBo (.cells #[.int .u8 (bt s i)] 5)
          have HY1 := HYo.below (below_alloc (Below.refl _ wr) (.cells #[.int .u8 (bt s i)] 5))
          have HZ1 : ∀ j, j < 1 → (wr.alloc (.cells #[.int .u8 (bt s i)] 5)).cell? ⟨wr.heap.size, j, none⟩ = some (.int .u8 ([bt s i].getD j 0)) := fun j hj => by obtain rfl : j = 0 := (by omega); exact (blk_cell (blk_new wr _) 0).trans rfl
          have HS1 : w.heap.size ≤ (wr.alloc (.cells #[.int .u8 (bt s i)] 5)).heap.size := HB1.size
          have HZA := Aside0.mk HZ1
          clear HZ1
          go_wp2_with (first | (go_at_call 15; (with_reducible refine (starts3_c s 39 39 i _ rfl (by decide) (by omega) (by omega) hs6).mono ?_); rintro e w' ⟨rfl, hw'⟩; obtain rfl := hw'.symm) | (at_builtin; refine append_bytes w.heap.size rfl (.tmp 61) (.tmp 63) rfl _ ys wr.heap.size 1 1 [bt s i] rfl rfl rfl HZA.out HY1 HS1 hyl (by omega) (by omega) ?_; intro v1 w3 hB3 hg3))
          go_roundg (((s.size : Int) - (i + 1)).toNat + 1)
          case measure => have := HA.out.2.2.2; omega
          case rel => exact ⟨i + 1, _, _, rfl, rfl, ⟨by omega, by omega, HNX.out, by omega⟩, ⟨.inr ⟨by omega, by simp⟩, by have := HL.out.2; simp; omega⟩, ⟨hB3⟩, ⟨HB1.grown hg3 HB1.size (fun k hk => HYo.own k hk)⟩⟩
        | false =>
          cases h92 : (bt s i == 92) with
          | false =>
            have HNX : Aside0 (quoted s 39 3 raw bytes ((s.size : Int) - (i + 1)).toNat (i + 1) = R) := ⟨by rw [← HA.out.2.2.1]; exact (qu_next i00 hi HQ.out h92 (by rw [h10]; rfl)).symm⟩
            have HB1 := below_alloc HBo (.cells #[.int .u8 (bt s i)] 5)
            have HY1 := HYo.below (below_alloc (Below.refl _ wr) (.cells #[.int .u8 (bt s i)] 5))
            have HZ1 : ∀ j, j < 1 → (wr.alloc (.cells #[.int .u8 (bt s i)] 5)).cell? ⟨wr.heap.size, j, none⟩ = some (.int .u8 ([bt s i].getD j 0)) := fun j hj => by obtain rfl : j = 0 := (by omega); exact (blk_cell (blk_new wr _) 0).trans rfl
            have HS1 : w.heap.size ≤ (wr.alloc (.cells #[.int .u8 (bt s i)] 5)).heap.size := HB1.size
            have HZA := Aside0.mk HZ1
            clear HZ1
            go_wp2_with (first | (go_at_call 15; (with_reducible refine (starts3_c s 39 39 i _ rfl (by decide) (by omega) (by omega) hs6).mono ?_); rintro e w' ⟨rfl, hw'⟩; obtain rfl := hw'.symm) | (at_builtin; refine append_bytes w.heap.size rfl (.tmp 61) (.tmp 63) rfl _ ys wr.heap.size 1 1 [bt s i] rfl rfl rfl HZA.out HY1 HS1 hyl (by omega) (by omega) ?_; intro v1 w3 hB3 hg3))
            go_roundg (((s.size : Int) - (i + 1)).toNat + 1)
            case measure => have := HA.out.2.2.2; omega
            case rel => exact ⟨i + 1, _, _, rfl, rfl, ⟨by omega, by omega, HNX.out, by omega⟩, ⟨.inr ⟨by omega, by simp⟩, by have := HL.out.2; simp; omega⟩, ⟨hB3⟩, ⟨HB1.grown hg3 HB1.size (fun k hk => HYo.own k hk)⟩⟩
          | true =>
            cases raw with
            | true =>
              by_cases hi1 : i + 1 < (s.size : Int)
              · have hie : (i + 1 == (s.size : Int)) = false := beqf (by omega)
                have hx1 := bt_at s (i + 1)
                have i10 : 0 ≤ i + 1 := by omega
                have n10 : (bt s (i + 1) == 10) = false := beqf (hT.feed i i00 (beq_iff_eq.1 h92))
                have HNX : Aside0 (quoted s 39 3 true bytes ((s.size : Int) - (i + 2)).toNat (i + 2) = R) := ⟨by rw [← HA.out.2.2.1]; exact (qu_esc i00 hi HQ.out h92 (esx_raw hi1)).symm⟩
                have HB1 := below_alloc HBo (.cells #[.int .u8 (bt s i), .int .u8 (bt s (i + 1))] 5)
                have HY1 := HYo.below (below_alloc (Below.refl _ wr) (.cells #[.int .u8 (bt s i), .int .u8 (bt s (i + 1))] 5))
                have HZ1 : ∀ j, j < 2 → (wr.alloc (.cells #[.int .u8 (bt s i), .int .u8 (bt s (i + 1))] 5)).cell? ⟨wr.heap.size, j, none⟩ = some (.int .u8 ([bt s i, bt s (i + 1)].getD j 0)) := fun j hj => by
                  have hj : j = 0 ∨ j = 1 := by omega
                  rcases hj with rfl | rfl
                  · exact (blk_cell (blk_new wr _) 0).trans rfl
                  · exact (blk_cell (blk_new wr _) 1).trans rfl
                have HS1 : w.heap.size ≤ (wr.alloc (.cells #[.int .u8 (bt s i), .int .u8 (bt s (i + 1))] 5)).heap.size := HB1.size
                have HZA := Aside0.mk HZ1
                clear HZ1
                go_wp2_with (first | (go_at_call 15; (with_reducible refine (starts3_c s 39 39 i _ rfl (by decide) (by omega) (by omega) hs6).mono ?_); rintro e w' ⟨rfl, hw'⟩; obtain rfl := hw'.symm) | (at_builtin; refine append_bytes w.heap.size rfl (.tmp 107) (.tmp 113) rfl _ ys wr.heap.size 2 2 [bt s i, bt s (i + 1)] rfl rfl rfl HZA.out HY1 HS1 hyl (by omega) (by omega) ?_; intro v1 w3 hB3 hg3))
                go_roundg (((s.size : Int) - (i + 2)).toNat + 1)
                case measure => have := HA.out.2.2.2; omega
                case rel => exact ⟨i + 2, _, _, rfl, rfl, ⟨by omega, by omega, HNX.out, by omega⟩, ⟨.inr ⟨by omega, by simp⟩, by have := HL.out.2; simp; omega⟩, ⟨hB3⟩, ⟨HB1.grown hg3 HB1.size (fun k hk => HYo.own k hk)⟩⟩
              · have hie : (i + 1 == (s.size : Int)) = true := beq_iff_eq.2 (by omega)
                have hres : Aside0 (R = none) := ⟨by rw [← HA.out.2.2.1]; exact qu_esc_no i00 hi HQ.out h92 (esx_raw_no (by omega))⟩
                go_wp2_with (first | (go_at_call 15; (with_reducible refine (starts3_c s 39 39 i _ rfl (by decide) (by omega) (by omega) hs6).mono ?_); rintro e w' ⟨rfl, hw'⟩; obtain rfl := hw'.symm))
                (try simp only [Exit.inBlock, Exit.then]); refine bodyPost_ret (results_tmp3 rfl _ _ _ rfl rfl rfl) rfl ?_
                rw [hres.out]
                exact ⟨_, _, rfl, HBo⟩
            | false =>
              cases hesc : esc s false bytes i with
              | none =>
                have HES := Aside0.mk hesc
                have hres : Aside0 (R = none) := ⟨by rw [← HA.out.2.2.1]; exact qu_esc_no i00 hi HQ.out h92 hesc⟩
                clear hesc
                go_wp2_with (first | (go_at_call 15; (with_reducible refine (starts3_c s 39 39 i _ rfl (by decide) (by omega) (by omega) hs6).mono ?_); rintro e w' ⟨rfl, hw'⟩; obtain rfl := hw'.symm) | (go_at_call 59; (with_reducible refine (escape_c s i bytes _ i00 hi hs6).mono ?_); rintro e w' hn; rw [HES.out] at hn; obtain ⟨q5, rfl, hw'⟩ := hn; obtain rfl := hw'.symm))
                (try simp only [Exit.inBlock, Exit.then]); refine bodyPost_ret (results_tmp3 rfl _ _ _ rfl rfl rfl) rfl ?_
                rw [hres.out]
                exact ⟨_, _, rfl, HBo⟩
              | some e5 =>
                have HES := Aside0.mk hesc
                have hein := esc_in s false bytes i e5 i00 hesc
                have HNX : Aside0 (quoted s 39 3 false bytes ((s.size : Int) - e5).toNat e5 = R) := ⟨by rw [← HA.out.2.2.1]; exact (qu_esc i00 hi HQ.out h92 hesc).symm⟩
                have e51 := hein.1
                have e52 := hein.2
                clear hein hesc
                go_wp2_with (first | (go_at_call 15; (with_reducible refine (starts3_c s 39 39 i _ rfl (by decide) (by omega) (by omega) hs6).mono ?_); rintro e w' ⟨rfl, hw'⟩; obtain rfl := hw'.symm) | (go_at_call 59; (with_reducible refine (escape_c s i bytes _ i00 hi hs6).mono ?_); rintro e w5 hn; rw [HES.out] at hn; obtain ⟨g5, n5, cap5, zs, rfl, hO5, hz5, hn51, hn54, hB5⟩ := hn; have hBB5 := HBo.trans (hB5.mono HBo.size); have HY5 := HYo.below hB5; have hZ5 := Aside0.mk (hO5.cells5 hz5)) | (at_builtin; refine append_bytes w.heap.size rfl (.tmp 131) (.tmp 132) rfl _ ys g5 n5 cap5 zs rfl rfl hz5 hZ5.out HY5 hBB5.size hyl (by omega) (by omega) ?_; intro v1 w3 hB3 hg3))
                go_roundg (((s.size : Int) - e5).toNat + 1)
                case measure => have := HA.out.2.2.2; omega
                case rel => exact ⟨e5, _, _, rfl, rfl, ⟨by omega, by omega, HNX.out, by omega⟩, ⟨.inr ⟨by omega, by rw [List.length_append]; omega⟩, by have := HL.out.2; rw [List.length_append]; push_cast; omega⟩, ⟨hB3⟩, ⟨hBB5.grown hg3 hBB5.size (fun k hk => HYo.own k hk)⟩⟩
    · have hd : decide (i < (s.size : Int)) = false := decide_eq_false hi
      have hres : Aside0 (R = none) := ⟨by rw [← HA.out.2.2.1]; exact qu_end (by omega)⟩
      go_wp2
      (try simp only [Exit.inBlock, Exit.then]); refine bodyPost_ret (results_tmp3 rfl _ _ _ rfl rfl rfl) rfl ?_
      rw [hres.out]
      exact ⟨_, _, rfl, HBo⟩
end Go.Proofs.YtjepdlmcombmcaaGreatDoor.Lx
