/- The reference's tokens: what lToken returns and writes. Conditions: the token lies in a block of its own; the text is such as is told. -/
import Derived.Test.YtjepdlmcombmcaaGreatDoorRg
import Derived.Test.YtjepdlmcombmcaaGreatDoorRa
import Derived.Test.YtjepdlmcombmcaaGreatDoorRb
import Derived.Deep.RegionHeld3
namespace Go.Proofs.YtjepdlmcombmcaaGreatDoor.Lx
open Go.RowKit Go.Proofs.YtjepdlmcombmcaaGreatDoorW.PrintWords

theorem Tells.tup {g : Nat} {y : Tt} {r : Option (Kd × Int)} {w w' : World} {e : Ending} (h : Tells g y r w e w') : ∃ (q : Int) (b : Bool), e = .returned (.tuple #[.int .i64 q, .bool b]) := by
  cases r with
  | none =>
    obtain ⟨⟨q, he⟩, _⟩ := h
    exact ⟨q, _, he⟩
  | some c => exact ⟨c.2, _, h.1⟩
theorem bne_nil_no {t : ByteArray} (h : t.size = 0) : t.toList.isEmpty = true := by
  have hl := list_size t
  rw [h] at hl
  rw [List.eq_nil_of_length_eq_zero hl]
  rfl
theorem bne_nil_yes {t : ByteArray} (h : ¬ t.size = 0) : t.toList.isEmpty = false := by
  have hl := list_size t
  cases ht : t.toList with
  | nil => rw [ht] at hl; exact absurd hl.symm h
  | cons a l => rfl
theorem isPart_of_letter {c : Int} (h : isLetter c = true) : isPart c = true := by
  have h1 : 97 ≤ c ∧ c ≤ 122 ∨ 65 ≤ c ∧ c ≤ 90 ∨ c = 95 := of_decide_eq_true h
  exact decide_eq_true (by omega)
theorem nb_str : ∀ (xs : List Int), (∀ x ∈ xs, 0 ≤ x ∧ x < 256) → nb (strOfNums xs) = xs := by
  intro xs h
  unfold nb strOfNums
  simp only [List.map_map]
  conv => rhs; rw [← List.map_id xs]
  refine List.map_congr_left fun x hx => ?_
  have := h x hx
  simp
  omega
theorem upS_size (s : ByteArray) : (upS s).size = s.size := by
  unfold upS
  rw [strOfNums_size, List.length_map, nb_length]
theorem up_range {c : Int} (h0 : 0 ≤ c) (h1 : c < 256) : 0 ≤ up c ∧ up c < 256 := by
  unfold up
  split <;> omega
theorem upS_bt {s : ByteArray} {i : Int} (h0 : 0 ≤ i) (h1 : i < (s.size : Int)) : bt (upS s) i = up (bt s i) := by
  have hn : nb (upS s) = (nb s).map up := nb_str _ (by
    intro x hx
    obtain ⟨c, hc, rfl⟩ := List.mem_map.1 hx
    unfold nb at hc
    obtain ⟨b, _, rfl⟩ := List.mem_map.1 hc
    have := b.toNat_lt
    exact up_range (by omega) (by omega))
  have hz := upS_size s
  have h2 := nb_get (upS s) i h0 (by omega)
  rw [hn, List.getElem?_map, nb_get s i h0 h1] at h2
  simpa using h2.symm
theorem run_all {p : Int → Bool} {s : ByteArray} {i : Int} : ∀ {j : Int}, i ≤ j → j < run p s i → p (bt s j) = true := by
  have key : ∀ (k : Nat) (i j : Int), (j - i).toNat ≤ k → i ≤ j → j < run p s i → p (bt s j) = true := by
    intro k
    induction k with
    | zero =>
      intro i j hk h0 h1
      obtain rfl : i = j := by omega
      by_cases hq : p (bt s i) = true
      · exact hq
      · rw [run_stop (by simpa using hq)] at h1; omega
    | succ k ih =>
      intro i j hk h0 h1
      by_cases he : i = j
      · subst he
        by_cases hq : p (bt s i) = true
        · exact hq
        · rw [run_stop (by simpa using hq)] at h1; omega
      · by_cases hlt : i < (s.size : Int)
        · by_cases hq : p (bt s i) = true
          · rw [run_step hlt hq] at h1
            exact ih (i + 1) j (by omega) (by omega) h1
          · rw [run_stop (by simpa using hq)] at h1; omega
        · rw [run_end (by omega)] at h1; omega
  intro j h0 h1
  exact key _ i j (Nat.le_refl _) h0 h1
theorem word_no_blank {s : ByteArray} {p E : Int} (h0 : 0 ≤ p) (h1 : E ≤ (s.size : Int)) (h : ∀ j : Int, p ≤ j → j < E → isPart (bt s j) = true) : ∀ i : Int, 0 ≤ i → i < ((upS (s.extract p.toNat E.toNat)).size : Int) → (bt (upS (s.extract p.toNat E.toNat)) i == 32) = false := by
  intro i i0 i1
  rw [upS_size] at i1
  have hsz : (s.extract p.toNat E.toNat).size ≤ E.toNat - p.toNat := by rw [ByteArray.size_extract]; omega
  have hpE : p ≤ E := by omega
  rw [upS_bt i0 i1, bt_extract s p E i h0 i0 (by omega) h1]
  have := h (p + i) (by omega) (by omega)
  have hp : 48 ≤ bt s (p + i) := by
    unfold isPart at this
    have := of_decide_eq_true this
    omega
  refine beqf ?_
  unfold up
  split <;> omega
theorem no_blank_list {u : ByteArray} (h : ∀ i : Int, 0 ≤ i → i < (u.size : Int) → (bt u i == 32) = false) : 32 ∉ u.toList := by
  intro hm
  obtain ⟨n, hn, hv⟩ := List.getElem_of_mem hm
  have hl := list_size u
  have h1 := h (n : Int) (by omega) (by omega)
  have h2 := (bt_32 u n (by omega)).2 (by rw [List.getElem?_eq_getElem hn, hv])
  rw [h2] at h1
  cases h1
section
variable {s : ByteArray} {p : Int} {after : Bool}
theorem tok_bq (h1 : p < (s.size : Int)) (h96 : bt s p = 96) : tok s after p = match lit s false false p with | none => none | some e => if e = p + 2 then none else some (.field, e) := by
  unfold tok
  rw [if_neg (by omega), if_pos (by rw [h96]; rfl)]
  rfl
theorem tok_num (h1 : p < (s.size : Int)) (h96 : (bt s p == 96) = false) (hd : (isDigit (bt s p) || (bt s p == 46 && !after && isDigit (bt s (p + 1)))) = true) : tok s after p = numW s p := by
  unfold tok numW
  rw [if_neg (by omega), if_neg (by rw [h96]; decide), if_pos hd]
  rfl
theorem tok_at (h1 : p < (s.size : Int)) (h64 : bt s p = 64) (hl : isLetter (bt s (p + 1)) = true) : tok s after p = some (.field, run isPart s (p + 1)) := by
  unfold tok
  rw [if_neg (by omega), h64, hl]
  rfl
theorem tok_lit (h1 : p < (s.size : Int)) (h96 : (bt s p == 96) = false) (hd : isDigit (bt s p) = false) (c46 : (bt s p == 46) = false) (c64 : (bt s p == 64) = false) {q : Int} {raw bytes : Bool} (hpx : pfx s 3 p false false = some (q, raw, bytes)) :
    tok s after p = match lit s raw bytes q with | none => none | some e => some (.other, e) := by
  unfold tok
  rw [if_neg (by omega), h96, hd, c46, c64, hpx]
  rfl
theorem tok_word (h1 : p < (s.size : Int)) (h96 : (bt s p == 96) = false) (hd : isDigit (bt s p) = false) (c46 : (bt s p == 46) = false) (c64 : (bt s p == 64) = false) (hpx : pfx s 3 p false false = none) (hl : isLetter (bt s p) = true) :
    tok s after p = some (if kw (upS (s.extract p.toNat (run isPart s p).toNat)).toList = true then .other else .field, run isPart s p) := by
  unfold tok
  rw [if_neg (by omega), h96, hd, c46, c64, hpx, hl]
  rfl
theorem tok_sg (h1 : p < (s.size : Int)) (h96 : (bt s p == 96) = false) (hd : isDigit (bt s p) = false) (h46 : (bt s p == 46 && !after && isDigit (bt s (p + 1))) = false) (h64 : (bt s p == 64 && isLetter (bt s (p + 1))) = false) (hpx : pfx s 3 p false false = none) (hl : isLetter (bt s p) = false) :
    tok s after p = signR s p := by
  unfold tok signR
  rw [if_neg (by omega), h96, hd, h46, h64, hpx, hl]
  rfl
end
/-- A literal, its mark at the place. -/
theorem quoted_c (s : ByteArray) (p : Int) (raw bytes : Bool) (w : World) (h0 : 0 ≤ p) (h1 : p < (s.size : Int)) (hT : Txt s) (hm : isMark (bt s p) = true ∨ bt s p = 96) :
    Calls Tryz.prog 39 #[.string s, .int .i64 p, .bool raw, .bool bytes] w (QuotE (markLen s (bt s p) p) p (lit s raw bytes p) w) := by
  unfold lit
  by_cases h96 : bt s p = 96
  · rw [h96, show markLen s 96 p = 1 from by unfold markLen; rfl]
    exact quoted_96_1 s p raw bytes w h0 h1 hT h96
  have hm : bt s p = 34 ∨ bt s p = 39 := by
    rcases hm with hm | hm
    · unfold isMark at hm
      simpa using hm
    · exact absurd hm h96
  rcases hm with hc | hc
  · rw [hc]
    cases h3 : (bt s (p + 1) == 34 && bt s (p + 2) == 34) with
    | true =>
      rw [show markLen s 34 p = 3 from by unfold markLen; rw [if_pos (by simpa using h3)]]
      exact quoted_34_3 s p raw bytes w h0 h1 hT hc h3
    | false =>
      rw [show markLen s 34 p = 1 from by unfold markLen; rw [if_neg (by simpa using h3)]]
      exact quoted_34_1 s p raw bytes w h0 h1 hT hc h3
  · rw [hc]
    cases h3 : (bt s (p + 1) == 39 && bt s (p + 2) == 39) with
    | true =>
      rw [show markLen s 39 p = 3 from by unfold markLen; rw [if_pos (by simpa using h3)]]
      exact quoted_39_3 s p raw bytes w h0 h1 hT hc h3
    | false =>
      rw [show markLen s 39 p = 1 from by unfold markLen; rw [if_neg (by simpa using h3)]]
      exact quoted_39_1 s p raw bytes w h0 h1 hT hc h3
set_option maxRecDepth 100000 in
set_option maxHeartbeats 8000000 in
theorem lt_bq (s : ByteArray) (p : Int) (path after : Bool) (w : World) (g : Nat) (y : Tt) (hY : IsT w g y) (hT : Txt s) (h0 : 0 ≤ p) (h1 : p < (s.size : Int)) (hp : path = true → isPart (bt s p) = false) (h96 : bt s p = 96) :
    Calls Tryz.prog 30 #[.string s, .int .i64 p, .bool path, .bool after, .pointer (some ⟨g, 0, none⟩)] w (Tells g y (tok s after p) w) := by
  obtain ⟨R, hR⟩ : ∃ R, tok s after p = R := ⟨_, rfl⟩
  have HR := Aside0.mk hR
  rw [hR]
  clear hR
  have hs5 := hT.size
  have hs6 : (s.size : Int) ≤ 1000000 := by omega
  have wp1 := iwrap (p + 1) (by omega) (by omega)
  have p10 : 0 ≤ p + 1 := by omega
  have hne : (p == (s.size : Int)) = false := beqf (by omega)
  have hx := bt_at s p
  have hx1 := bt_at s (p + 1)
  have c0 := hY.c0
  have c3 := hY.c3
  have hz := hY.free
  cases path with
  | false =>
    clear hp
    go_enter Tryz.func30, Tryz.ntmps30
    cases hl : lit s false false p with
    | none =>
      have HLT : Aside0 (quoted s 96 1 false false ((s.size : Int) - p).toNat (p + 1) = none) := ⟨by rw [← hl]; unfold lit; rw [h96]; rfl⟩
      have hres : Aside0 (R = none) := ⟨by rw [← HR.out, tok_bq h1 h96, hl]⟩
      clear hl
      go_wp2_with (first
        | (go_at_call 37; (with_reducible refine (specIdentPart_c _ _).mono ?_); rintro e w' ⟨rfl, hw'⟩; obtain rfl := hw'.symm)
        | (go_at_call 40; (with_reducible refine (specDigit_c _ _).mono ?_); rintro e w' ⟨rfl, hw'⟩; obtain rfl := hw'.symm)
        | (go_at_call 42; (with_reducible refine (specLetter_c _ _).mono ?_); rintro e w' ⟨rfl, hw'⟩; obtain rfl := hw'.symm)
        | (go_at_call 39; (with_reducible refine (quoted_96_1 s p false false _ h0 h1 hT h96).mono ?_); rintro e w5 hn; rw [HLT.out] at hn; obtain ⟨t5, q5, rfl, hB5⟩ := hn; have hY5 := hY.below hB5; have d0 := hY5.c0; have d3 := hY5.c3; have dz := hY5.free))
      (try simp only [Exit.inBlock, Exit.then]); refine bodyPost_ret (results_tmp2 rfl _ _ _) rfl ?_
      rw [hres.out]
      exact ⟨⟨_, rfl⟩, (((Ups.refl g w).below hB5).set 0 _).set 3 _, _, _, _, (hY5.set0 _).set3 _⟩
    | some e5 =>
      have HLT : Aside0 (quoted s 96 1 false false ((s.size : Int) - p).toNat (p + 1) = some e5) := ⟨by rw [← hl]; unfold lit; rw [h96]; rfl⟩
      by_cases he5 : e5 = p + 2
      · have hres : Aside0 (R = none) := ⟨by rw [← HR.out, tok_bq h1 h96, hl]; simp [he5]⟩
        have HE5 := Aside0.mk he5
        clear hl he5
        go_wp2_with (first
          | (go_at_call 37; (with_reducible refine (specIdentPart_c _ _).mono ?_); rintro e w' ⟨rfl, hw'⟩; obtain rfl := hw'.symm)
          | (go_at_call 40; (with_reducible refine (specDigit_c _ _).mono ?_); rintro e w' ⟨rfl, hw'⟩; obtain rfl := hw'.symm)
          | (go_at_call 42; (with_reducible refine (specLetter_c _ _).mono ?_); rintro e w' ⟨rfl, hw'⟩; obtain rfl := hw'.symm)
          | (go_at_call 39; (with_reducible refine (quoted_96_1 s p false false _ h0 h1 hT h96).mono ?_); rintro e w5 hn; rw [HLT.out] at hn; obtain ⟨t5, rfl, hsz5, hB5⟩ := hn; have ht5 : t5.toList.isEmpty = true := bne_nil_no (hsz5.2 (by have := HE5.out; omega)); clear hsz5; have hY5 := hY.below hB5; have d0 := hY5.c0; have d3 := hY5.c3; have dz := hY5.free))
        (try simp only [Exit.inBlock, Exit.then]); refine bodyPost_ret (results_tmp2 rfl _ _ _) rfl ?_
        rw [hres.out]
        exact ⟨⟨_, rfl⟩, (((Ups.refl g w).below hB5).set 0 _).set 3 _, _, _, _, (hY5.set0 _).set3 _⟩
      · have hres : Aside0 (R = some (.field, e5)) := ⟨by rw [← HR.out, tok_bq h1 h96, hl]; simp [he5]⟩
        have HE5 := Aside0.mk he5
        clear hl he5
        go_wp2_with (first
          | (go_at_call 37; (with_reducible refine (specIdentPart_c _ _).mono ?_); rintro e w' ⟨rfl, hw'⟩; obtain rfl := hw'.symm)
          | (go_at_call 40; (with_reducible refine (specDigit_c _ _).mono ?_); rintro e w' ⟨rfl, hw'⟩; obtain rfl := hw'.symm)
          | (go_at_call 42; (with_reducible refine (specLetter_c _ _).mono ?_); rintro e w' ⟨rfl, hw'⟩; obtain rfl := hw'.symm)
          | (go_at_call 39; (with_reducible refine (quoted_96_1 s p false false _ h0 h1 hT h96).mono ?_); rintro e w5 hn; rw [HLT.out] at hn; obtain ⟨t5, rfl, hsz5, hB5⟩ := hn; have ht5 : t5.toList.isEmpty = false := bne_nil_yes (fun h => HE5.out (by have := hsz5.1 h; omega)); clear hsz5; have hY5 := hY.below hB5; have d0 := hY5.c0; have d3 := hY5.c3; have dz := hY5.free))
        (try simp only [Exit.inBlock, Exit.then]); refine bodyPost_ret (results_tmp2 rfl _ _ _) rfl ?_
        rw [hres.out]
        exact ⟨rfl, (((Ups.refl g w).below hB5).set 0 _).set 3 _, _, _, _, kd_txt _ rfl, (hY5.set0 _).set3 _⟩
  | true =>
    have hpt := hp rfl
    clear hp
    go_enter Tryz.func30, Tryz.ntmps30
    cases hl : lit s false false p with
    | none =>
      have HLT : Aside0 (quoted s 96 1 false false ((s.size : Int) - p).toNat (p + 1) = none) := ⟨by rw [← hl]; unfold lit; rw [h96]; rfl⟩
      have hres : Aside0 (R = none) := ⟨by rw [← HR.out, tok_bq h1 h96, hl]⟩
      clear hl
      go_wp2_with (first
        | (go_at_call 37; (with_reducible refine (specIdentPart_c _ _).mono ?_); rintro e w' ⟨rfl, hw'⟩; obtain rfl := hw'.symm)
        | (go_at_call 40; (with_reducible refine (specDigit_c _ _).mono ?_); rintro e w' ⟨rfl, hw'⟩; obtain rfl := hw'.symm)
        | (go_at_call 42; (with_reducible refine (specLetter_c _ _).mono ?_); rintro e w' ⟨rfl, hw'⟩; obtain rfl := hw'.symm)
        | (go_at_call 39; (with_reducible refine (quoted_96_1 s p false false _ h0 h1 hT h96).mono ?_); rintro e w5 hn; rw [HLT.out] at hn; obtain ⟨t5, q5, rfl, hB5⟩ := hn; have hY5 := hY.below hB5; have d0 := hY5.c0; have d3 := hY5.c3; have dz := hY5.free))
      (try simp only [Exit.inBlock, Exit.then]); refine bodyPost_ret (results_tmp2 rfl _ _ _) rfl ?_
      rw [hres.out]
      exact ⟨⟨_, rfl⟩, (((Ups.refl g w).below hB5).set 0 _).set 3 _, _, _, _, (hY5.set0 _).set3 _⟩
    | some e5 =>
      have HLT : Aside0 (quoted s 96 1 false false ((s.size : Int) - p).toNat (p + 1) = some e5) := ⟨by rw [← hl]; unfold lit; rw [h96]; rfl⟩
      by_cases he5 : e5 = p + 2
      · have hres : Aside0 (R = none) := ⟨by rw [← HR.out, tok_bq h1 h96, hl]; simp [he5]⟩
        have HE5 := Aside0.mk he5
        clear hl he5
        go_wp2_with (first
          | (go_at_call 37; (with_reducible refine (specIdentPart_c _ _).mono ?_); rintro e w' ⟨rfl, hw'⟩; obtain rfl := hw'.symm)
          | (go_at_call 40; (with_reducible refine (specDigit_c _ _).mono ?_); rintro e w' ⟨rfl, hw'⟩; obtain rfl := hw'.symm)
          | (go_at_call 42; (with_reducible refine (specLetter_c _ _).mono ?_); rintro e w' ⟨rfl, hw'⟩; obtain rfl := hw'.symm)
          | (go_at_call 39; (with_reducible refine (quoted_96_1 s p false false _ h0 h1 hT h96).mono ?_); rintro e w5 hn; rw [HLT.out] at hn; obtain ⟨t5, rfl, hsz5, hB5⟩ := hn; have ht5 : t5.toList.isEmpty = true := bne_nil_no (hsz5.2 (by have := HE5.out; omega)); clear hsz5; have hY5 := hY.below hB5; have d0 := hY5.c0; have d3 := hY5.c3; have dz := hY5.free))
        (try simp only [Exit.inBlock, Exit.then]); refine bodyPost_ret (results_tmp2 rfl _ _ _) rfl ?_
        rw [hres.out]
        exact ⟨⟨_, rfl⟩, (((Ups.refl g w).below hB5).set 0 _).set 3 _, _, _, _, (hY5.set0 _).set3 _⟩
      · have hres : Aside0 (R = some (.field, e5)) := ⟨by rw [← HR.out, tok_bq h1 h96, hl]; simp [he5]⟩
        have HE5 := Aside0.mk he5
        clear hl he5
        go_wp2_with (first
          | (go_at_call 37; (with_reducible refine (specIdentPart_c _ _).mono ?_); rintro e w' ⟨rfl, hw'⟩; obtain rfl := hw'.symm)
          | (go_at_call 40; (with_reducible refine (specDigit_c _ _).mono ?_); rintro e w' ⟨rfl, hw'⟩; obtain rfl := hw'.symm)
          | (go_at_call 42; (with_reducible refine (specLetter_c _ _).mono ?_); rintro e w' ⟨rfl, hw'⟩; obtain rfl := hw'.symm)
          | (go_at_call 39; (with_reducible refine (quoted_96_1 s p false false _ h0 h1 hT h96).mono ?_); rintro e w5 hn; rw [HLT.out] at hn; obtain ⟨t5, rfl, hsz5, hB5⟩ := hn; have ht5 : t5.toList.isEmpty = false := bne_nil_yes (fun h => HE5.out (by have := hsz5.1 h; omega)); clear hsz5; have hY5 := hY.below hB5; have d0 := hY5.c0; have d3 := hY5.c3; have dz := hY5.free))
        (try simp only [Exit.inBlock, Exit.then]); refine bodyPost_ret (results_tmp2 rfl _ _ _) rfl ?_
        rw [hres.out]
        exact ⟨rfl, (((Ups.refl g w).below hB5).set 0 _).set 3 _, _, _, _, kd_txt _ rfl, (hY5.set0 _).set3 _⟩
set_option maxRecDepth 100000 in
set_option maxHeartbeats 8000000 in
theorem lt_num (s : ByteArray) (p : Int) (path after : Bool) (w : World) (g : Nat) (y : Tt) (hY : IsT w g y) (hT : Txt s) (h0 : 0 ≤ p) (h1 : p < (s.size : Int)) (hp : path = true → isPart (bt s p) = false) (h96 : (bt s p == 96) = false) (hd : isDigit (bt s p) = true) :
    Calls Tryz.prog 30 #[.string s, .int .i64 p, .bool path, .bool after, .pointer (some ⟨g, 0, none⟩)] w (Tells g y (tok s after p) w) := by
  obtain ⟨R, hR⟩ : ∃ R, tok s after p = R := ⟨_, rfl⟩
  have HR := Aside0.mk hR
  rw [hR]
  clear hR
  have hs5 := hT.size
  have hs6 : (s.size : Int) ≤ 1000000 := by omega
  have wp1 := iwrap (p + 1) (by omega) (by omega)
  have p10 : 0 ≤ p + 1 := by omega
  have hne : (p == (s.size : Int)) = false := beqf (by omega)
  have hx := bt_at s p
  have hx1 := bt_at s (p + 1)
  have c0 := hY.c0
  have c3 := hY.c3
  have hz := hY.free
  have hres : Aside0 (R = numW s p) := ⟨by rw [← HR.out]; exact tok_num h1 h96 (by rw [hd]; rfl)⟩
  clear HR
  cases path with
  | false =>
    clear hp
    go_enter Tryz.func30, Tryz.ntmps30
    go_wp2_with (first
      | (go_at_call 37; (with_reducible refine (specIdentPart_c _ _).mono ?_); rintro e w' ⟨rfl, hw'⟩; obtain rfl := hw'.symm)
      | (go_at_call 40; (with_reducible refine (specDigit_c _ _).mono ?_); rintro e w' ⟨rfl, hw'⟩; obtain rfl := hw'.symm)
      | (go_at_call 42; (with_reducible refine (specLetter_c _ _).mono ?_); rintro e w' ⟨rfl, hw'⟩; obtain rfl := hw'.symm)
      | (go_at_call 41; (with_reducible refine (lNumber_c s p _ g y hY h0 h1 hs6).mono ?_); rintro e w5 hn; obtain ⟨q5, b5, he5⟩ := hn.tup; obtain rfl := he5))
    (try simp only [Exit.inBlock, Exit.then]); refine bodyPost_ret (results_tmp2 rfl _ _ _) rfl ?_
    rw [hres.out]
    exact hn
  | true =>
    have hpt := hp rfl
    clear hp
    go_enter Tryz.func30, Tryz.ntmps30
    go_wp2_with (first
      | (go_at_call 37; (with_reducible refine (specIdentPart_c _ _).mono ?_); rintro e w' ⟨rfl, hw'⟩; obtain rfl := hw'.symm)
      | (go_at_call 40; (with_reducible refine (specDigit_c _ _).mono ?_); rintro e w' ⟨rfl, hw'⟩; obtain rfl := hw'.symm)
      | (go_at_call 42; (with_reducible refine (specLetter_c _ _).mono ?_); rintro e w' ⟨rfl, hw'⟩; obtain rfl := hw'.symm)
      | (go_at_call 41; (with_reducible refine (lNumber_c s p _ g y hY h0 h1 hs6).mono ?_); rintro e w5 hn; obtain ⟨q5, b5, he5⟩ := hn.tup; obtain rfl := he5))
    (try simp only [Exit.inBlock, Exit.then]); refine bodyPost_ret (results_tmp2 rfl _ _ _) rfl ?_
    rw [hres.out]
    exact hn
set_option maxRecDepth 100000 in
set_option maxHeartbeats 8000000 in
theorem lt_dotnum (s : ByteArray) (p : Int) (path after : Bool) (w : World) (g : Nat) (y : Tt) (hY : IsT w g y) (hT : Txt s) (h0 : 0 ≤ p) (h1 : p < (s.size : Int)) (hp : path = true → isPart (bt s p) = false) (h46 : bt s p = 46) (ha : after = false) (h2 : p + 1 < (s.size : Int)) (hd2 : isDigit (bt s (p + 1)) = true) :
    Calls Tryz.prog 30 #[.string s, .int .i64 p, .bool path, .bool after, .pointer (some ⟨g, 0, none⟩)] w (Tells g y (tok s after p) w) := by
  obtain ⟨R, hR⟩ : ∃ R, tok s after p = R := ⟨_, rfl⟩
  have HR := Aside0.mk hR
  rw [hR]
  clear hR
  have hs5 := hT.size
  have hs6 : (s.size : Int) ≤ 1000000 := by omega
  have wp1 := iwrap (p + 1) (by omega) (by omega)
  have p10 : 0 ≤ p + 1 := by omega
  have hne : (p == (s.size : Int)) = false := beqf (by omega)
  have hx := bt_at s p
  have hx1 := bt_at s (p + 1)
  have c0 := hY.c0
  have c3 := hY.c3
  have hz := hY.free
  have h96 : (bt s p == 96) = false := by rw [h46]; rfl
  have hd : isDigit (bt s p) = false := by rw [h46]; decide
  have c46 : (bt s p == 46) = true := beq_iff_eq.2 h46
  have hres : Aside0 (R = numW s p) := ⟨by rw [← HR.out]; exact tok_num h1 h96 (by rw [ha, c46, hd2]; simp)⟩
  clear HR h46
  subst ha
  have dl := decide_eq_true h2
  cases path with
  | false =>
    clear hp
    go_enter Tryz.func30, Tryz.ntmps30
    go_wp2_with (first
      | (go_at_call 37; (with_reducible refine (specIdentPart_c _ _).mono ?_); rintro e w' ⟨rfl, hw'⟩; obtain rfl := hw'.symm)
      | (go_at_call 40; (with_reducible refine (specDigit_c _ _).mono ?_); rintro e w' ⟨rfl, hw'⟩; obtain rfl := hw'.symm)
      | (go_at_call 42; (with_reducible refine (specLetter_c _ _).mono ?_); rintro e w' ⟨rfl, hw'⟩; obtain rfl := hw'.symm)
      | (go_at_call 41; (with_reducible refine (lNumber_c s p _ g y hY h0 h1 hs6).mono ?_); rintro e w5 hn; obtain ⟨q5, b5, he5⟩ := hn.tup; obtain rfl := he5))
    (try simp only [Exit.inBlock, Exit.then]); refine bodyPost_ret (results_tmp2 rfl _ _ _) rfl ?_
    rw [hres.out]
    exact hn
  | true =>
    have hpt := hp rfl
    clear hp
    go_enter Tryz.func30, Tryz.ntmps30
    go_wp2_with (first
      | (go_at_call 37; (with_reducible refine (specIdentPart_c _ _).mono ?_); rintro e w' ⟨rfl, hw'⟩; obtain rfl := hw'.symm)
      | (go_at_call 40; (with_reducible refine (specDigit_c _ _).mono ?_); rintro e w' ⟨rfl, hw'⟩; obtain rfl := hw'.symm)
      | (go_at_call 42; (with_reducible refine (specLetter_c _ _).mono ?_); rintro e w' ⟨rfl, hw'⟩; obtain rfl := hw'.symm)
      | (go_at_call 41; (with_reducible refine (lNumber_c s p _ g y hY h0 h1 hs6).mono ?_); rintro e w5 hn; obtain ⟨q5, b5, he5⟩ := hn.tup; obtain rfl := he5))
    (try simp only [Exit.inBlock, Exit.then]); refine bodyPost_ret (results_tmp2 rfl _ _ _) rfl ?_
    rw [hres.out]
    exact hn
set_option maxRecDepth 100000 in
set_option maxHeartbeats 8000000 in
theorem lt_par (s : ByteArray) (p : Int) (path after : Bool) (w : World) (g : Nat) (y : Tt) (hY : IsT w g y) (hT : Txt s) (h0 : 0 ≤ p) (h1 : p < (s.size : Int)) (hp : path = true → isPart (bt s p) = false) (h64 : bt s p = 64) (hl : isLetter (bt s (p + 1)) = true) :
    Calls Tryz.prog 30 #[.string s, .int .i64 p, .bool path, .bool after, .pointer (some ⟨g, 0, none⟩)] w (Tells g y (tok s after p) w) := by
  obtain ⟨R, hR⟩ : ∃ R, tok s after p = R := ⟨_, rfl⟩
  have HR := Aside0.mk hR
  rw [hR]
  clear hR
  have hs5 := hT.size
  have hs6 : (s.size : Int) ≤ 1000000 := by omega
  have wp1 := iwrap (p + 1) (by omega) (by omega)
  have p10 : 0 ≤ p + 1 := by omega
  have hne : (p == (s.size : Int)) = false := beqf (by omega)
  have hx := bt_at s p
  have hx1 := bt_at s (p + 1)
  have c0 := hY.c0
  have c3 := hY.c3
  have hz := hY.free
  have h96 : (bt s p == 96) = false := by rw [h64]; rfl
  have hd : isDigit (bt s p) = false := by rw [h64]; decide
  have c46 : (bt s p == 46) = false := by rw [h64]; rfl
  have c64 : (bt s p == 64) = true := beq_iff_eq.2 h64
  have h2 : p + 1 < (s.size : Int) := bt_in (s := s) (i := p + 1) rfl (isLetter_ne hl) (by omega)
  have dl := decide_eq_true h2
  have hres : Aside0 (R = some (.field, run isPart s (p + 1))) := ⟨by rw [← HR.out]; exact tok_at h1 h64 hl⟩
  clear HR h64
  have r0 := run_ge isPart s (p + 1)
  have r1 := run_le (p := isPart) (s := s) (i := p + 1) (by omega)
  have r2 : 0 ≤ run isPart s (p + 1) := by omega
  cases path with
  | false =>
    clear hp
    go_enter Tryz.func30, Tryz.ntmps30
    go_wp2_with (first
      | (go_at_call 37; (with_reducible refine (specIdentPart_c _ _).mono ?_); rintro e w' ⟨rfl, hw'⟩; obtain rfl := hw'.symm)
      | (go_at_call 40; (with_reducible refine (specDigit_c _ _).mono ?_); rintro e w' ⟨rfl, hw'⟩; obtain rfl := hw'.symm)
      | (go_at_call 42; (with_reducible refine (specLetter_c _ _).mono ?_); rintro e w' ⟨rfl, hw'⟩; obtain rfl := hw'.symm)
      | (go_at_call 38; (with_reducible refine (lParts_c s (p + 1) _ (by omega) (by omega) hs6).mono ?_); rintro e w' ⟨rfl, hw'⟩; obtain rfl := hw'.symm))
    go_region_held3 (fun _ => True) (exact trivial) (fail)
    go_wp2
    (try simp only [Exit.inBlock, Exit.then]); refine bodyPost_ret (results_tmp2 rfl _ _ _) rfl ?_
    rw [hres.out]
    exact ⟨rfl, (((Ups.refl g w).drewN _).set 0 _).set 3 _, _, _, _, kd_txt _ rfl, ((hY.drewN _).set0 _).set3 _⟩
  | true =>
    have hpt := hp rfl
    clear hp
    go_enter Tryz.func30, Tryz.ntmps30
    go_wp2_with (first
      | (go_at_call 37; (with_reducible refine (specIdentPart_c _ _).mono ?_); rintro e w' ⟨rfl, hw'⟩; obtain rfl := hw'.symm)
      | (go_at_call 40; (with_reducible refine (specDigit_c _ _).mono ?_); rintro e w' ⟨rfl, hw'⟩; obtain rfl := hw'.symm)
      | (go_at_call 42; (with_reducible refine (specLetter_c _ _).mono ?_); rintro e w' ⟨rfl, hw'⟩; obtain rfl := hw'.symm)
      | (go_at_call 38; (with_reducible refine (lParts_c s (p + 1) _ (by omega) (by omega) hs6).mono ?_); rintro e w' ⟨rfl, hw'⟩; obtain rfl := hw'.symm))
    go_region_held3 (fun _ => True) (exact trivial) (fail)
    go_wp2
    (try simp only [Exit.inBlock, Exit.then]); refine bodyPost_ret (results_tmp2 rfl _ _ _) rfl ?_
    rw [hres.out]
    exact ⟨rfl, (((Ups.refl g w).drewN _).set 0 _).set 3 _, _, _, _, kd_txt _ rfl, ((hY.drewN _).set0 _).set3 _⟩
set_option maxRecDepth 100000 in
set_option maxHeartbeats 8000000 in
theorem lt_lit (s : ByteArray) (p : Int) (path after : Bool) (w : World) (g : Nat) (y : Tt) (hY : IsT w g y) (hT : Txt s) (h0 : 0 ≤ p) (h1 : p < (s.size : Int)) (hp : path = true → isPart (bt s p) = false) (h96 : (bt s p == 96) = false) (hd : isDigit (bt s p) = false) (c46 : (bt s p == 46) = false) (c64 : (bt s p == 64) = false) (q : Int) (raw bytes : Bool) (hpx : pfx s 3 p false false = some (q, raw, bytes)) :
    Calls Tryz.prog 30 #[.string s, .int .i64 p, .bool path, .bool after, .pointer (some ⟨g, 0, none⟩)] w (Tells g y (tok s after p) w) := by
  obtain ⟨R, hR⟩ : ∃ R, tok s after p = R := ⟨_, rfl⟩
  have HR := Aside0.mk hR
  rw [hR]
  clear hR
  have hs5 := hT.size
  have hs6 : (s.size : Int) ≤ 1000000 := by omega
  have wp1 := iwrap (p + 1) (by omega) (by omega)
  have p10 : 0 ≤ p + 1 := by omega
  have hne : (p == (s.size : Int)) = false := beqf (by omega)
  have hx := bt_at s p
  have hx1 := bt_at s (p + 1)
  have c0 := hY.c0
  have c3 := hY.c3
  have hz := hY.free
  have hpin := pfx_in s 3 p false false q raw bytes h0 hpx
  have q0 := hpin.1
  have q1 := hpin.2.1
  have HQU : Aside0 (∀ W, Calls Tryz.prog 39 #[.string s, .int .i64 q, .bool raw, .bool bytes] W (QuotE (markLen s (bt s q) q) q (lit s raw bytes q) W)) := ⟨fun W => quoted_c s q raw bytes W (by omega) q1 hT (.inl hpin.2.2)⟩
  have HPX : Aside0 (pfxV p (pfx s 3 p false false) = .tuple #[.int .i64 (q - p), .bool raw, .bool bytes]) := ⟨by rw [hpx]; rfl⟩
  have HTK : Aside0 (tok s after p = match lit s raw bytes q with | none => none | some e => some (.other, e)) := ⟨tok_lit h1 h96 hd c46 c64 hpx⟩
  clear hpx hpin
  have dq : decide (0 ≤ q - p) = true := decide_eq_true (by omega)
  have wq := iwrap q (by omega) (by omega)
  have hqe : p + (q - p) = q := by omega
  cases path with
  | false =>
    clear hp
    go_enter Tryz.func30, Tryz.ntmps30
    cases hl : lit s raw bytes q with
    | none =>
      have HLT := Aside0.mk hl
      have hres : Aside0 (R = none) := ⟨by rw [← HR.out, HTK.out, hl]⟩
      clear hl
      cases bytes with
      | false =>
        go_wp2_with (first
          | (go_at_call 37; (with_reducible refine (specIdentPart_c _ _).mono ?_); rintro e w' ⟨rfl, hw'⟩; obtain rfl := hw'.symm)
          | (go_at_call 40; (with_reducible refine (specDigit_c _ _).mono ?_); rintro e w' ⟨rfl, hw'⟩; obtain rfl := hw'.symm)
          | (go_at_call 42; (with_reducible refine (specLetter_c _ _).mono ?_); rintro e w' ⟨rfl, hw'⟩; obtain rfl := hw'.symm)
          | (go_at_call 43; (with_reducible refine (prefix_c s p _ h0 h1 hs6).mono ?_); rintro e w' ⟨he, hw'⟩; obtain rfl := hw'.symm; rw [HPX.out] at he; obtain rfl := he)
          | (go_at_call 39; (with_reducible refine (HQU.out _).mono ?_); rintro e w5 hn; rw [HLT.out] at hn; obtain ⟨t5, q5, rfl, hB5⟩ := hn; have hY5 := hY.below hB5; have d0 := hY5.c0; have d3 := hY5.c3; have dz := hY5.free))
        (try simp only [Exit.inBlock, Exit.then]); refine bodyPost_ret (results_tmp2 rfl _ _ _) rfl ?_
        rw [hres.out]
        exact ⟨⟨_, rfl⟩, (((Ups.refl g w).below hB5).set 0 _).set 3 _, _, _, _, (hY5.set0 _).set3 _⟩
      | true =>
        go_wp2_with (first
          | (go_at_call 37; (with_reducible refine (specIdentPart_c _ _).mono ?_); rintro e w' ⟨rfl, hw'⟩; obtain rfl := hw'.symm)
          | (go_at_call 40; (with_reducible refine (specDigit_c _ _).mono ?_); rintro e w' ⟨rfl, hw'⟩; obtain rfl := hw'.symm)
          | (go_at_call 42; (with_reducible refine (specLetter_c _ _).mono ?_); rintro e w' ⟨rfl, hw'⟩; obtain rfl := hw'.symm)
          | (go_at_call 43; (with_reducible refine (prefix_c s p _ h0 h1 hs6).mono ?_); rintro e w' ⟨he, hw'⟩; obtain rfl := hw'.symm; rw [HPX.out] at he; obtain rfl := he)
          | (go_at_call 39; (with_reducible refine (HQU.out _).mono ?_); rintro e w5 hn; rw [HLT.out] at hn; obtain ⟨t5, q5, rfl, hB5⟩ := hn; have hY5 := hY.below hB5; have d0 := hY5.c0; have d3 := hY5.c3; have dz := hY5.free))
        (try simp only [Exit.inBlock, Exit.then]); refine bodyPost_ret (results_tmp2 rfl _ _ _) rfl ?_
        rw [hres.out]
        exact ⟨⟨_, rfl⟩, ((((Ups.refl g w).below hB5).set 0 _).set 3 _).set 0 _, _, _, _, ((hY5.set0 _).set3 _).set0 _⟩
    | some e5 =>
      have HLT := Aside0.mk hl
      have hres : Aside0 (R = some (.other, e5)) := ⟨by rw [← HR.out, HTK.out, hl]⟩
      clear hl
      cases bytes with
      | false =>
        go_wp2_with (first
          | (go_at_call 37; (with_reducible refine (specIdentPart_c _ _).mono ?_); rintro e w' ⟨rfl, hw'⟩; obtain rfl := hw'.symm)
          | (go_at_call 40; (with_reducible refine (specDigit_c _ _).mono ?_); rintro e w' ⟨rfl, hw'⟩; obtain rfl := hw'.symm)
          | (go_at_call 42; (with_reducible refine (specLetter_c _ _).mono ?_); rintro e w' ⟨rfl, hw'⟩; obtain rfl := hw'.symm)
          | (go_at_call 43; (with_reducible refine (prefix_c s p _ h0 h1 hs6).mono ?_); rintro e w' ⟨he, hw'⟩; obtain rfl := hw'.symm; rw [HPX.out] at he; obtain rfl := he)
          | (go_at_call 39; (with_reducible refine (HQU.out _).mono ?_); rintro e w5 hn; rw [HLT.out] at hn; obtain ⟨t5, rfl, hsz5, hB5⟩ := hn; clear hsz5; have hY5 := hY.below hB5; have d0 := hY5.c0; have d3 := hY5.c3; have dz := hY5.free))
        (try simp only [Exit.inBlock, Exit.then]); refine bodyPost_ret (results_tmp2 rfl _ _ _) rfl ?_
        rw [hres.out]
        exact ⟨rfl, (((Ups.refl g w).below hB5).set 0 _).set 3 _, _, _, _, kd_txt _ rfl, (hY5.set0 _).set3 _⟩
      | true =>
        go_wp2_with (first
          | (go_at_call 37; (with_reducible refine (specIdentPart_c _ _).mono ?_); rintro e w' ⟨rfl, hw'⟩; obtain rfl := hw'.symm)
          | (go_at_call 40; (with_reducible refine (specDigit_c _ _).mono ?_); rintro e w' ⟨rfl, hw'⟩; obtain rfl := hw'.symm)
          | (go_at_call 42; (with_reducible refine (specLetter_c _ _).mono ?_); rintro e w' ⟨rfl, hw'⟩; obtain rfl := hw'.symm)
          | (go_at_call 43; (with_reducible refine (prefix_c s p _ h0 h1 hs6).mono ?_); rintro e w' ⟨he, hw'⟩; obtain rfl := hw'.symm; rw [HPX.out] at he; obtain rfl := he)
          | (go_at_call 39; (with_reducible refine (HQU.out _).mono ?_); rintro e w5 hn; rw [HLT.out] at hn; obtain ⟨t5, rfl, hsz5, hB5⟩ := hn; clear hsz5; have hY5 := hY.below hB5; have d0 := hY5.c0; have d3 := hY5.c3; have dz := hY5.free))
        (try simp only [Exit.inBlock, Exit.then]); refine bodyPost_ret (results_tmp2 rfl _ _ _) rfl ?_
        rw [hres.out]
        exact ⟨rfl, ((((Ups.refl g w).below hB5).set 0 _).set 3 _).set 0 _, _, _, _, kd_txt _ rfl, ((hY5.set0 _).set3 _).set0 _⟩
  | true =>
    have hpt := hp rfl
    clear hp
    go_enter Tryz.func30, Tryz.ntmps30
    cases hl : lit s raw bytes q with
    | none =>
      have HLT := Aside0.mk hl
      have hres : Aside0 (R = none) := ⟨by rw [← HR.out, HTK.out, hl]⟩
      clear hl
      cases bytes with
      | false =>
        go_wp2_with (first
          | (go_at_call 37; (with_reducible refine (specIdentPart_c _ _).mono ?_); rintro e w' ⟨rfl, hw'⟩; obtain rfl := hw'.symm)
          | (go_at_call 40; (with_reducible refine (specDigit_c _ _).mono ?_); rintro e w' ⟨rfl, hw'⟩; obtain rfl := hw'.symm)
          | (go_at_call 42; (with_reducible refine (specLetter_c _ _).mono ?_); rintro e w' ⟨rfl, hw'⟩; obtain rfl := hw'.symm)
          | (go_at_call 43; (with_reducible refine (prefix_c s p _ h0 h1 hs6).mono ?_); rintro e w' ⟨he, hw'⟩; obtain rfl := hw'.symm; rw [HPX.out] at he; obtain rfl := he)
          | (go_at_call 39; (with_reducible refine (HQU.out _).mono ?_); rintro e w5 hn; rw [HLT.out] at hn; obtain ⟨t5, q5, rfl, hB5⟩ := hn; have hY5 := hY.below hB5; have d0 := hY5.c0; have d3 := hY5.c3; have dz := hY5.free))
        (try simp only [Exit.inBlock, Exit.then]); refine bodyPost_ret (results_tmp2 rfl _ _ _) rfl ?_
        rw [hres.out]
        exact ⟨⟨_, rfl⟩, (((Ups.refl g w).below hB5).set 0 _).set 3 _, _, _, _, (hY5.set0 _).set3 _⟩
      | true =>
        go_wp2_with (first
          | (go_at_call 37; (with_reducible refine (specIdentPart_c _ _).mono ?_); rintro e w' ⟨rfl, hw'⟩; obtain rfl := hw'.symm)
          | (go_at_call 40; (with_reducible refine (specDigit_c _ _).mono ?_); rintro e w' ⟨rfl, hw'⟩; obtain rfl := hw'.symm)
          | (go_at_call 42; (with_reducible refine (specLetter_c _ _).mono ?_); rintro e w' ⟨rfl, hw'⟩; obtain rfl := hw'.symm)
          | (go_at_call 43; (with_reducible refine (prefix_c s p _ h0 h1 hs6).mono ?_); rintro e w' ⟨he, hw'⟩; obtain rfl := hw'.symm; rw [HPX.out] at he; obtain rfl := he)
          | (go_at_call 39; (with_reducible refine (HQU.out _).mono ?_); rintro e w5 hn; rw [HLT.out] at hn; obtain ⟨t5, q5, rfl, hB5⟩ := hn; have hY5 := hY.below hB5; have d0 := hY5.c0; have d3 := hY5.c3; have dz := hY5.free))
        (try simp only [Exit.inBlock, Exit.then]); refine bodyPost_ret (results_tmp2 rfl _ _ _) rfl ?_
        rw [hres.out]
        exact ⟨⟨_, rfl⟩, ((((Ups.refl g w).below hB5).set 0 _).set 3 _).set 0 _, _, _, _, ((hY5.set0 _).set3 _).set0 _⟩
    | some e5 =>
      have HLT := Aside0.mk hl
      have hres : Aside0 (R = some (.other, e5)) := ⟨by rw [← HR.out, HTK.out, hl]⟩
      clear hl
      cases bytes with
      | false =>
        go_wp2_with (first
          | (go_at_call 37; (with_reducible refine (specIdentPart_c _ _).mono ?_); rintro e w' ⟨rfl, hw'⟩; obtain rfl := hw'.symm)
          | (go_at_call 40; (with_reducible refine (specDigit_c _ _).mono ?_); rintro e w' ⟨rfl, hw'⟩; obtain rfl := hw'.symm)
          | (go_at_call 42; (with_reducible refine (specLetter_c _ _).mono ?_); rintro e w' ⟨rfl, hw'⟩; obtain rfl := hw'.symm)
          | (go_at_call 43; (with_reducible refine (prefix_c s p _ h0 h1 hs6).mono ?_); rintro e w' ⟨he, hw'⟩; obtain rfl := hw'.symm; rw [HPX.out] at he; obtain rfl := he)
          | (go_at_call 39; (with_reducible refine (HQU.out _).mono ?_); rintro e w5 hn; rw [HLT.out] at hn; obtain ⟨t5, rfl, hsz5, hB5⟩ := hn; clear hsz5; have hY5 := hY.below hB5; have d0 := hY5.c0; have d3 := hY5.c3; have dz := hY5.free))
        (try simp only [Exit.inBlock, Exit.then]); refine bodyPost_ret (results_tmp2 rfl _ _ _) rfl ?_
        rw [hres.out]
        exact ⟨rfl, (((Ups.refl g w).below hB5).set 0 _).set 3 _, _, _, _, kd_txt _ rfl, (hY5.set0 _).set3 _⟩
      | true =>
        go_wp2_with (first
          | (go_at_call 37; (with_reducible refine (specIdentPart_c _ _).mono ?_); rintro e w' ⟨rfl, hw'⟩; obtain rfl := hw'.symm)
          | (go_at_call 40; (with_reducible refine (specDigit_c _ _).mono ?_); rintro e w' ⟨rfl, hw'⟩; obtain rfl := hw'.symm)
          | (go_at_call 42; (with_reducible refine (specLetter_c _ _).mono ?_); rintro e w' ⟨rfl, hw'⟩; obtain rfl := hw'.symm)
          | (go_at_call 43; (with_reducible refine (prefix_c s p _ h0 h1 hs6).mono ?_); rintro e w' ⟨he, hw'⟩; obtain rfl := hw'.symm; rw [HPX.out] at he; obtain rfl := he)
          | (go_at_call 39; (with_reducible refine (HQU.out _).mono ?_); rintro e w5 hn; rw [HLT.out] at hn; obtain ⟨t5, rfl, hsz5, hB5⟩ := hn; clear hsz5; have hY5 := hY.below hB5; have d0 := hY5.c0; have d3 := hY5.c3; have dz := hY5.free))
        (try simp only [Exit.inBlock, Exit.then]); refine bodyPost_ret (results_tmp2 rfl _ _ _) rfl ?_
        rw [hres.out]
        exact ⟨rfl, ((((Ups.refl g w).below hB5).set 0 _).set 3 _).set 0 _, _, _, _, kd_txt _ rfl, ((hY5.set0 _).set3 _).set0 _⟩
set_option maxRecDepth 100000 in
set_option maxHeartbeats 8000000 in
theorem lt_word (s : ByteArray) (p : Int) (path after : Bool) (w : World) (g : Nat) (y : Tt) (hY : IsT w g y) (hT : Txt s) (h0 : 0 ≤ p) (h1 : p < (s.size : Int)) (hp : path = true → isPart (bt s p) = false) (h96 : (bt s p == 96) = false) (hd : isDigit (bt s p) = false) (c46 : (bt s p == 46) = false) (c64 : (bt s p == 64) = false) (hpx : pfx s 3 p false false = none) (hl : isLetter (bt s p) = true) :
    Calls Tryz.prog 30 #[.string s, .int .i64 p, .bool path, .bool after, .pointer (some ⟨g, 0, none⟩)] w (Tells g y (tok s after p) w) := by
  obtain ⟨R, hR⟩ : ∃ R, tok s after p = R := ⟨_, rfl⟩
  have HR := Aside0.mk hR
  rw [hR]
  clear hR
  have hs5 := hT.size
  have hs6 : (s.size : Int) ≤ 1000000 := by omega
  have wp1 := iwrap (p + 1) (by omega) (by omega)
  have p10 : 0 ≤ p + 1 := by omega
  have hne : (p == (s.size : Int)) = false := beqf (by omega)
  have hx := bt_at s p
  have hx1 := bt_at s (p + 1)
  have c0 := hY.c0
  have c3 := hY.c3
  have hz := hY.free
  obtain ⟨E, hE⟩ : ∃ E, run isPart s p = E := ⟨_, rfl⟩
  have HE : Aside0 (Ending.returned (.int .i64 (run isPart s p)) = Ending.returned (.int .i64 E)) := ⟨by rw [hE]⟩
  have HPX : Aside0 (pfxV p (pfx s 3 p false false) = .tuple #[.int .i64 (-1), .bool false, .bool false]) := ⟨by rw [hpx]; rfl⟩
  have HTK : Aside0 (tok s after p = some (if kw (upS (s.extract p.toNat E.toNat)).toList = true then .other else .field, E)) := ⟨by rw [← hE]; exact tok_word h1 h96 hd c46 c64 hpx hl⟩
  have hpl : isPart (bt s p) = true := isPart_of_letter hl
  have e0 : p < E := by rw [← hE, run_step h1 hpl]; have := run_ge isPart s (p + 1); omega
  have e1 : E ≤ (s.size : Int) := by rw [← hE]; exact run_le (by omega)
  have e2 : p ≤ E := by omega
  have e3 : 0 ≤ E := by omega
  have hse : ((s.extract p.toNat E.toNat).size : Int) = E - p := size_extract s p E h0 (by omega) e1
  have hes : ((s.extract p.toNat E.toNat).size : Int) ≤ 1000000 := by omega
  have hus : ((upS (s.extract p.toNat E.toNat)).size : Int) = E - p := by rw [upS_size]; exact hse
  have hu0 : 0 < ((upS (s.extract p.toNat E.toNat)).size : Int) := by omega
  have hu1 : ((upS (s.extract p.toNat E.toNat)).size : Int) ≤ 1000000 := by omega
  have HU2 : Aside0 (∀ i : Int, 0 ≤ i → i < ((upS (s.extract p.toNat E.toNat)).size : Int) → (bt (upS (s.extract p.toNat E.toNat)) i == 32) = false) := ⟨word_no_blank h0 e1 (by rw [← hE]; exact fun j j0 j1 => run_all j0 j1)⟩
  have HU3 : Aside0 (32 ∉ (upS (s.extract p.toNat E.toNat)).toList) := ⟨no_blank_list HU2.out⟩
  clear hE hpx hse hus
  cases path with
  | false =>
    clear hp
    go_enter Tryz.func30, Tryz.ntmps30
    cases hk : kw (upS (s.extract p.toNat E.toNat)).toList with
    | true =>
      have hres : Aside0 (R = some (.other, E)) := ⟨by rw [← HR.out, HTK.out, hk]; rfl⟩
      have HKK := Aside0.mk hk
      go_wp2_with (first
        | (go_at_call 37; (with_reducible refine (specIdentPart_c _ _).mono ?_); rintro e w' ⟨rfl, hw'⟩; obtain rfl := hw'.symm)
        | (go_at_call 40; (with_reducible refine (specDigit_c _ _).mono ?_); rintro e w' ⟨rfl, hw'⟩; obtain rfl := hw'.symm)
        | (go_at_call 42; (with_reducible refine (specLetter_c _ _).mono ?_); rintro e w' ⟨rfl, hw'⟩; obtain rfl := hw'.symm)
        | (go_at_call 43; (with_reducible refine (prefix_c s p _ h0 h1 hs6).mono ?_); rintro e w' ⟨he, hw'⟩; obtain rfl := hw'.symm; rw [HPX.out] at he; obtain rfl := he)
        | (go_at_call 38; (with_reducible refine (lParts_c s p _ (by omega) (by omega) hs6).mono ?_); rintro e w' ⟨he, hw'⟩; obtain rfl := hw'.symm; rw [HE.out] at he; obtain rfl := he)
        | (go_at_call 44; (with_reducible refine (specUpper_c (s.extract p.toNat E.toNat) _ hes).mono ?_); rintro e w5 ⟨rfl, hB5⟩; have hY5 := hY.below hB5; have d0 := hY5.c0; have d3 := hY5.c3; have dz := hY5.free)
        | (go_at_call 45; (with_reducible refine (specKeyword_c (upS (s.extract p.toNat E.toNat)) _ hu1 hu0 HU2.out HU3.out).mono ?_); rintro e w' ⟨rfl, hw'⟩; obtain rfl := hw'.symm))
      (try simp only [Exit.inBlock, Exit.then]); refine bodyPost_ret (results_tmp2 rfl _ _ _) rfl ?_
      rw [hres.out]
      exact ⟨rfl, ((Ups.refl g w).below hB5).set 0 _, _, _, _, kd_kw _ HKK.out, hY5.set0 _⟩
    | false =>
      have hres : Aside0 (R = some (.field, E)) := ⟨by rw [← HR.out, HTK.out, hk]; rfl⟩
      have HKK := Aside0.mk hk
      go_wp2_with (first
        | (go_at_call 37; (with_reducible refine (specIdentPart_c _ _).mono ?_); rintro e w' ⟨rfl, hw'⟩; obtain rfl := hw'.symm)
        | (go_at_call 40; (with_reducible refine (specDigit_c _ _).mono ?_); rintro e w' ⟨rfl, hw'⟩; obtain rfl := hw'.symm)
        | (go_at_call 42; (with_reducible refine (specLetter_c _ _).mono ?_); rintro e w' ⟨rfl, hw'⟩; obtain rfl := hw'.symm)
        | (go_at_call 43; (with_reducible refine (prefix_c s p _ h0 h1 hs6).mono ?_); rintro e w' ⟨he, hw'⟩; obtain rfl := hw'.symm; rw [HPX.out] at he; obtain rfl := he)
        | (go_at_call 38; (with_reducible refine (lParts_c s p _ (by omega) (by omega) hs6).mono ?_); rintro e w' ⟨he, hw'⟩; obtain rfl := hw'.symm; rw [HE.out] at he; obtain rfl := he)
        | (go_at_call 44; (with_reducible refine (specUpper_c (s.extract p.toNat E.toNat) _ hes).mono ?_); rintro e w5 ⟨rfl, hB5⟩; have hY5 := hY.below hB5; have d0 := hY5.c0; have d3 := hY5.c3; have dz := hY5.free)
        | (go_at_call 45; (with_reducible refine (specKeyword_c (upS (s.extract p.toNat E.toNat)) _ hu1 hu0 HU2.out HU3.out).mono ?_); rintro e w' ⟨rfl, hw'⟩; obtain rfl := hw'.symm))
      (try simp only [Exit.inBlock, Exit.then]); refine bodyPost_ret (results_tmp2 rfl _ _ _) rfl ?_
      rw [hres.out]
      exact ⟨rfl, (((Ups.refl g w).below hB5).set 0 _).set 3 _, _, _, _, kd_txt _ rfl, (hY5.set0 _).set3 _⟩
  | true =>
    exact absurd (hp rfl) (by rw [hpl]; decide)
set_option maxRecDepth 100000 in
set_option maxHeartbeats 8000000 in
theorem lt_sg (s : ByteArray) (p : Int) (path after : Bool) (w : World) (g : Nat) (y : Tt) (hY : IsT w g y) (hT : Txt s) (h0 : 0 ≤ p) (h1 : p < (s.size : Int)) (hp : path = true → isPart (bt s p) = false) (c46 : (bt s p == 46) = false) (c64 : (bt s p == 64) = false) (h96 : (bt s p == 96) = false) (hd : isDigit (bt s p) = false) (hpx : pfx s 3 p false false = none) (hl : isLetter (bt s p) = false) :
    Calls Tryz.prog 30 #[.string s, .int .i64 p, .bool path, .bool after, .pointer (some ⟨g, 0, none⟩)] w (Tells g y (tok s after p) w) := by
  obtain ⟨R, hR⟩ : ∃ R, tok s after p = R := ⟨_, rfl⟩
  have HR := Aside0.mk hR
  rw [hR]
  clear hR
  have hs5 := hT.size
  have hs6 : (s.size : Int) ≤ 1000000 := by omega
  have wp1 := iwrap (p + 1) (by omega) (by omega)
  have p10 : 0 ≤ p + 1 := by omega
  have hne : (p == (s.size : Int)) = false := beqf (by omega)
  have hx := bt_at s p
  have hx1 := bt_at s (p + 1)
  have c0 := hY.c0
  have c3 := hY.c3
  have hz := hY.free
  have HPX : Aside0 (pfxV p (pfx s 3 p false false) = .tuple #[.int .i64 (-1), .bool false, .bool false]) := ⟨by rw [hpx]; rfl⟩
  have HSG : Aside0 (signR s p = R) := ⟨by rw [← HR.out]; exact (tok_sg h1 h96 hd (by rw [c46]; rfl) (by rw [c64]; rfl) hpx hl).symm⟩
  clear hpx
  cases path with
  | false =>
    clear hp
    go_enter Tryz.func30, Tryz.ntmps30
    go_wp2_with (first
      | (go_at_call 37; (with_reducible refine (specIdentPart_c _ _).mono ?_); rintro e w' ⟨rfl, hw'⟩; obtain rfl := hw'.symm)
      | (go_at_call 40; (with_reducible refine (specDigit_c _ _).mono ?_); rintro e w' ⟨rfl, hw'⟩; obtain rfl := hw'.symm)
      | (go_at_call 42; (with_reducible refine (specLetter_c _ _).mono ?_); rintro e w' ⟨rfl, hw'⟩; obtain rfl := hw'.symm)
      | (go_at_call 43; (with_reducible refine (prefix_c s p _ h0 h1 hs6).mono ?_); rintro e w' ⟨he, hw'⟩; obtain rfl := hw'.symm; rw [HPX.out] at he; obtain rfl := he)
      | (go_at_call 46; (with_reducible refine (lSign_c s p _ g y hY h0 h1 hs6).mono ?_); rintro e w5 hn; rw [HSG.out] at hn; obtain ⟨q5, b5, he5⟩ := hn.tup; obtain rfl := he5))
    (try simp only [Exit.inBlock, Exit.then]); refine bodyPost_ret (results_tmp2 rfl _ _ _) rfl ?_
    exact hn
  | true =>
    have hpt := hp rfl
    clear hp
    go_enter Tryz.func30, Tryz.ntmps30
    go_wp2_with (first
      | (go_at_call 37; (with_reducible refine (specIdentPart_c _ _).mono ?_); rintro e w' ⟨rfl, hw'⟩; obtain rfl := hw'.symm)
      | (go_at_call 40; (with_reducible refine (specDigit_c _ _).mono ?_); rintro e w' ⟨rfl, hw'⟩; obtain rfl := hw'.symm)
      | (go_at_call 42; (with_reducible refine (specLetter_c _ _).mono ?_); rintro e w' ⟨rfl, hw'⟩; obtain rfl := hw'.symm)
      | (go_at_call 43; (with_reducible refine (prefix_c s p _ h0 h1 hs6).mono ?_); rintro e w' ⟨he, hw'⟩; obtain rfl := hw'.symm; rw [HPX.out] at he; obtain rfl := he)
      | (go_at_call 46; (with_reducible refine (lSign_c s p _ g y hY h0 h1 hs6).mono ?_); rintro e w5 hn; rw [HSG.out] at hn; obtain ⟨q5, b5, he5⟩ := hn.tup; obtain rfl := he5))
    (try simp only [Exit.inBlock, Exit.then]); refine bodyPost_ret (results_tmp2 rfl _ _ _) rfl ?_
    exact hn
set_option maxRecDepth 100000 in
set_option maxHeartbeats 8000000 in
theorem lt_sg46a (s : ByteArray) (p : Int) (path after : Bool) (w : World) (g : Nat) (y : Tt) (hY : IsT w g y) (hT : Txt s) (h0 : 0 ≤ p) (h1 : p < (s.size : Int)) (hp : path = true → isPart (bt s p) = false) (h46 : bt s p = 46) (ha : after = true) (h96 : (bt s p == 96) = false) (hd : isDigit (bt s p) = false) (hpx : pfx s 3 p false false = none) (hl : isLetter (bt s p) = false) :
    Calls Tryz.prog 30 #[.string s, .int .i64 p, .bool path, .bool after, .pointer (some ⟨g, 0, none⟩)] w (Tells g y (tok s after p) w) := by
  obtain ⟨R, hR⟩ : ∃ R, tok s after p = R := ⟨_, rfl⟩
  have HR := Aside0.mk hR
  rw [hR]
  clear hR
  have hs5 := hT.size
  have hs6 : (s.size : Int) ≤ 1000000 := by omega
  have wp1 := iwrap (p + 1) (by omega) (by omega)
  have p10 : 0 ≤ p + 1 := by omega
  have hne : (p == (s.size : Int)) = false := beqf (by omega)
  have hx := bt_at s p
  have hx1 := bt_at s (p + 1)
  have c0 := hY.c0
  have c3 := hY.c3
  have hz := hY.free
  have HPX : Aside0 (pfxV p (pfx s 3 p false false) = .tuple #[.int .i64 (-1), .bool false, .bool false]) := ⟨by rw [hpx]; rfl⟩
  have c46 : (bt s p == 46) = true := beq_iff_eq.2 h46
  have c64 : (bt s p == 64) = false := by rw [h46]; rfl
  have HSG : Aside0 (signR s p = R) := ⟨by rw [← HR.out]; exact (tok_sg h1 h96 hd (by rw [ha, Bool.not_true, Bool.and_false, Bool.false_and]) (by rw [c64]; rfl) hpx hl).symm⟩
  clear hpx
  clear h46
  subst ha
  cases path with
  | false =>
    clear hp
    go_enter Tryz.func30, Tryz.ntmps30
    go_wp2_with (first
      | (go_at_call 37; (with_reducible refine (specIdentPart_c _ _).mono ?_); rintro e w' ⟨rfl, hw'⟩; obtain rfl := hw'.symm)
      | (go_at_call 40; (with_reducible refine (specDigit_c _ _).mono ?_); rintro e w' ⟨rfl, hw'⟩; obtain rfl := hw'.symm)
      | (go_at_call 42; (with_reducible refine (specLetter_c _ _).mono ?_); rintro e w' ⟨rfl, hw'⟩; obtain rfl := hw'.symm)
      | (go_at_call 43; (with_reducible refine (prefix_c s p _ h0 h1 hs6).mono ?_); rintro e w' ⟨he, hw'⟩; obtain rfl := hw'.symm; rw [HPX.out] at he; obtain rfl := he)
      | (go_at_call 46; (with_reducible refine (lSign_c s p _ g y hY h0 h1 hs6).mono ?_); rintro e w5 hn; rw [HSG.out] at hn; obtain ⟨q5, b5, he5⟩ := hn.tup; obtain rfl := he5))
    (try simp only [Exit.inBlock, Exit.then]); refine bodyPost_ret (results_tmp2 rfl _ _ _) rfl ?_
    exact hn
  | true =>
    have hpt := hp rfl
    clear hp
    go_enter Tryz.func30, Tryz.ntmps30
    go_wp2_with (first
      | (go_at_call 37; (with_reducible refine (specIdentPart_c _ _).mono ?_); rintro e w' ⟨rfl, hw'⟩; obtain rfl := hw'.symm)
      | (go_at_call 40; (with_reducible refine (specDigit_c _ _).mono ?_); rintro e w' ⟨rfl, hw'⟩; obtain rfl := hw'.symm)
      | (go_at_call 42; (with_reducible refine (specLetter_c _ _).mono ?_); rintro e w' ⟨rfl, hw'⟩; obtain rfl := hw'.symm)
      | (go_at_call 43; (with_reducible refine (prefix_c s p _ h0 h1 hs6).mono ?_); rintro e w' ⟨he, hw'⟩; obtain rfl := hw'.symm; rw [HPX.out] at he; obtain rfl := he)
      | (go_at_call 46; (with_reducible refine (lSign_c s p _ g y hY h0 h1 hs6).mono ?_); rintro e w5 hn; rw [HSG.out] at hn; obtain ⟨q5, b5, he5⟩ := hn.tup; obtain rfl := he5))
    (try simp only [Exit.inBlock, Exit.then]); refine bodyPost_ret (results_tmp2 rfl _ _ _) rfl ?_
    exact hn
set_option maxRecDepth 100000 in
set_option maxHeartbeats 8000000 in
theorem lt_sg46e (s : ByteArray) (p : Int) (path after : Bool) (w : World) (g : Nat) (y : Tt) (hY : IsT w g y) (hT : Txt s) (h0 : 0 ≤ p) (h1 : p < (s.size : Int)) (hp : path = true → isPart (bt s p) = false) (h46 : bt s p = 46) (ha : after = false) (h2 : (s.size : Int) ≤ p + 1) (h96 : (bt s p == 96) = false) (hd : isDigit (bt s p) = false) (hpx : pfx s 3 p false false = none) (hl : isLetter (bt s p) = false) :
    Calls Tryz.prog 30 #[.string s, .int .i64 p, .bool path, .bool after, .pointer (some ⟨g, 0, none⟩)] w (Tells g y (tok s after p) w) := by
  obtain ⟨R, hR⟩ : ∃ R, tok s after p = R := ⟨_, rfl⟩
  have HR := Aside0.mk hR
  rw [hR]
  clear hR
  have hs5 := hT.size
  have hs6 : (s.size : Int) ≤ 1000000 := by omega
  have wp1 := iwrap (p + 1) (by omega) (by omega)
  have p10 : 0 ≤ p + 1 := by omega
  have hne : (p == (s.size : Int)) = false := beqf (by omega)
  have hx := bt_at s p
  have hx1 := bt_at s (p + 1)
  have c0 := hY.c0
  have c3 := hY.c3
  have hz := hY.free
  have HPX : Aside0 (pfxV p (pfx s 3 p false false) = .tuple #[.int .i64 (-1), .bool false, .bool false]) := ⟨by rw [hpx]; rfl⟩
  have c46 : (bt s p == 46) = true := beq_iff_eq.2 h46
  have c64 : (bt s p == 64) = false := by rw [h46]; rfl
  have HSG : Aside0 (signR s p = R) := ⟨by rw [← HR.out]; exact (tok_sg h1 h96 hd (by rw [bt_far s (p + 1) (by omega), show isDigit 0 = false from by decide, Bool.and_false]) (by rw [c64]; rfl) hpx hl).symm⟩
  clear hpx
  clear h46
  subst ha
  have dl : decide (p + 1 < (s.size : Int)) = false := decide_eq_false (by omega)
  cases path with
  | false =>
    clear hp
    go_enter Tryz.func30, Tryz.ntmps30
    go_wp2_with (first
      | (go_at_call 37; (with_reducible refine (specIdentPart_c _ _).mono ?_); rintro e w' ⟨rfl, hw'⟩; obtain rfl := hw'.symm)
      | (go_at_call 40; (with_reducible refine (specDigit_c _ _).mono ?_); rintro e w' ⟨rfl, hw'⟩; obtain rfl := hw'.symm)
      | (go_at_call 42; (with_reducible refine (specLetter_c _ _).mono ?_); rintro e w' ⟨rfl, hw'⟩; obtain rfl := hw'.symm)
      | (go_at_call 43; (with_reducible refine (prefix_c s p _ h0 h1 hs6).mono ?_); rintro e w' ⟨he, hw'⟩; obtain rfl := hw'.symm; rw [HPX.out] at he; obtain rfl := he)
      | (go_at_call 46; (with_reducible refine (lSign_c s p _ g y hY h0 h1 hs6).mono ?_); rintro e w5 hn; rw [HSG.out] at hn; obtain ⟨q5, b5, he5⟩ := hn.tup; obtain rfl := he5))
    (try simp only [Exit.inBlock, Exit.then]); refine bodyPost_ret (results_tmp2 rfl _ _ _) rfl ?_
    exact hn
  | true =>
    have hpt := hp rfl
    clear hp
    go_enter Tryz.func30, Tryz.ntmps30
    go_wp2_with (first
      | (go_at_call 37; (with_reducible refine (specIdentPart_c _ _).mono ?_); rintro e w' ⟨rfl, hw'⟩; obtain rfl := hw'.symm)
      | (go_at_call 40; (with_reducible refine (specDigit_c _ _).mono ?_); rintro e w' ⟨rfl, hw'⟩; obtain rfl := hw'.symm)
      | (go_at_call 42; (with_reducible refine (specLetter_c _ _).mono ?_); rintro e w' ⟨rfl, hw'⟩; obtain rfl := hw'.symm)
      | (go_at_call 43; (with_reducible refine (prefix_c s p _ h0 h1 hs6).mono ?_); rintro e w' ⟨he, hw'⟩; obtain rfl := hw'.symm; rw [HPX.out] at he; obtain rfl := he)
      | (go_at_call 46; (with_reducible refine (lSign_c s p _ g y hY h0 h1 hs6).mono ?_); rintro e w5 hn; rw [HSG.out] at hn; obtain ⟨q5, b5, he5⟩ := hn.tup; obtain rfl := he5))
    (try simp only [Exit.inBlock, Exit.then]); refine bodyPost_ret (results_tmp2 rfl _ _ _) rfl ?_
    exact hn
set_option maxRecDepth 100000 in
set_option maxHeartbeats 8000000 in
theorem lt_sg46n (s : ByteArray) (p : Int) (path after : Bool) (w : World) (g : Nat) (y : Tt) (hY : IsT w g y) (hT : Txt s) (h0 : 0 ≤ p) (h1 : p < (s.size : Int)) (hp : path = true → isPart (bt s p) = false) (h46 : bt s p = 46) (ha : after = false) (h2 : p + 1 < (s.size : Int)) (hd2 : isDigit (bt s (p + 1)) = false) (h96 : (bt s p == 96) = false) (hd : isDigit (bt s p) = false) (hpx : pfx s 3 p false false = none) (hl : isLetter (bt s p) = false) :
    Calls Tryz.prog 30 #[.string s, .int .i64 p, .bool path, .bool after, .pointer (some ⟨g, 0, none⟩)] w (Tells g y (tok s after p) w) := by
  obtain ⟨R, hR⟩ : ∃ R, tok s after p = R := ⟨_, rfl⟩
  have HR := Aside0.mk hR
  rw [hR]
  clear hR
  have hs5 := hT.size
  have hs6 : (s.size : Int) ≤ 1000000 := by omega
  have wp1 := iwrap (p + 1) (by omega) (by omega)
  have p10 : 0 ≤ p + 1 := by omega
  have hne : (p == (s.size : Int)) = false := beqf (by omega)
  have hx := bt_at s p
  have hx1 := bt_at s (p + 1)
  have c0 := hY.c0
  have c3 := hY.c3
  have hz := hY.free
  have HPX : Aside0 (pfxV p (pfx s 3 p false false) = .tuple #[.int .i64 (-1), .bool false, .bool false]) := ⟨by rw [hpx]; rfl⟩
  have c46 : (bt s p == 46) = true := beq_iff_eq.2 h46
  have c64 : (bt s p == 64) = false := by rw [h46]; rfl
  have HSG : Aside0 (signR s p = R) := ⟨by rw [← HR.out]; exact (tok_sg h1 h96 hd (by rw [hd2, Bool.and_false]) (by rw [c64]; rfl) hpx hl).symm⟩
  clear hpx
  clear h46
  subst ha
  have dl := decide_eq_true h2
  cases path with
  | false =>
    clear hp
    go_enter Tryz.func30, Tryz.ntmps30
    go_wp2_with (first
      | (go_at_call 37; (with_reducible refine (specIdentPart_c _ _).mono ?_); rintro e w' ⟨rfl, hw'⟩; obtain rfl := hw'.symm)
      | (go_at_call 40; (with_reducible refine (specDigit_c _ _).mono ?_); rintro e w' ⟨rfl, hw'⟩; obtain rfl := hw'.symm)
      | (go_at_call 42; (with_reducible refine (specLetter_c _ _).mono ?_); rintro e w' ⟨rfl, hw'⟩; obtain rfl := hw'.symm)
      | (go_at_call 43; (with_reducible refine (prefix_c s p _ h0 h1 hs6).mono ?_); rintro e w' ⟨he, hw'⟩; obtain rfl := hw'.symm; rw [HPX.out] at he; obtain rfl := he)
      | (go_at_call 46; (with_reducible refine (lSign_c s p _ g y hY h0 h1 hs6).mono ?_); rintro e w5 hn; rw [HSG.out] at hn; obtain ⟨q5, b5, he5⟩ := hn.tup; obtain rfl := he5))
    (try simp only [Exit.inBlock, Exit.then]); refine bodyPost_ret (results_tmp2 rfl _ _ _) rfl ?_
    exact hn
  | true =>
    have hpt := hp rfl
    clear hp
    go_enter Tryz.func30, Tryz.ntmps30
    go_wp2_with (first
      | (go_at_call 37; (with_reducible refine (specIdentPart_c _ _).mono ?_); rintro e w' ⟨rfl, hw'⟩; obtain rfl := hw'.symm)
      | (go_at_call 40; (with_reducible refine (specDigit_c _ _).mono ?_); rintro e w' ⟨rfl, hw'⟩; obtain rfl := hw'.symm)
      | (go_at_call 42; (with_reducible refine (specLetter_c _ _).mono ?_); rintro e w' ⟨rfl, hw'⟩; obtain rfl := hw'.symm)
      | (go_at_call 43; (with_reducible refine (prefix_c s p _ h0 h1 hs6).mono ?_); rintro e w' ⟨he, hw'⟩; obtain rfl := hw'.symm; rw [HPX.out] at he; obtain rfl := he)
      | (go_at_call 46; (with_reducible refine (lSign_c s p _ g y hY h0 h1 hs6).mono ?_); rintro e w5 hn; rw [HSG.out] at hn; obtain ⟨q5, b5, he5⟩ := hn.tup; obtain rfl := he5))
    (try simp only [Exit.inBlock, Exit.then]); refine bodyPost_ret (results_tmp2 rfl _ _ _) rfl ?_
    exact hn
set_option maxRecDepth 100000 in
set_option maxHeartbeats 8000000 in
theorem lt_sg64e (s : ByteArray) (p : Int) (path after : Bool) (w : World) (g : Nat) (y : Tt) (hY : IsT w g y) (hT : Txt s) (h0 : 0 ≤ p) (h1 : p < (s.size : Int)) (hp : path = true → isPart (bt s p) = false) (h64 : bt s p = 64) (h2 : (s.size : Int) ≤ p + 1) (h96 : (bt s p == 96) = false) (hd : isDigit (bt s p) = false) (hpx : pfx s 3 p false false = none) (hl : isLetter (bt s p) = false) :
    Calls Tryz.prog 30 #[.string s, .int .i64 p, .bool path, .bool after, .pointer (some ⟨g, 0, none⟩)] w (Tells g y (tok s after p) w) := by
  obtain ⟨R, hR⟩ : ∃ R, tok s after p = R := ⟨_, rfl⟩
  have HR := Aside0.mk hR
  rw [hR]
  clear hR
  have hs5 := hT.size
  have hs6 : (s.size : Int) ≤ 1000000 := by omega
  have wp1 := iwrap (p + 1) (by omega) (by omega)
  have p10 : 0 ≤ p + 1 := by omega
  have hne : (p == (s.size : Int)) = false := beqf (by omega)
  have hx := bt_at s p
  have hx1 := bt_at s (p + 1)
  have c0 := hY.c0
  have c3 := hY.c3
  have hz := hY.free
  have HPX : Aside0 (pfxV p (pfx s 3 p false false) = .tuple #[.int .i64 (-1), .bool false, .bool false]) := ⟨by rw [hpx]; rfl⟩
  have c64 : (bt s p == 64) = true := beq_iff_eq.2 h64
  have c46 : (bt s p == 46) = false := by rw [h64]; rfl
  have HSG : Aside0 (signR s p = R) := ⟨by rw [← HR.out]; exact (tok_sg h1 h96 hd (by rw [c46]; rfl) (by rw [bt_far s (p + 1) (by omega), show isLetter 0 = false from by decide, Bool.and_false]) hpx hl).symm⟩
  clear hpx
  clear h64
  have dl : decide (p + 1 < (s.size : Int)) = false := decide_eq_false (by omega)
  cases path with
  | false =>
    clear hp
    go_enter Tryz.func30, Tryz.ntmps30
    go_wp2_with (first
      | (go_at_call 37; (with_reducible refine (specIdentPart_c _ _).mono ?_); rintro e w' ⟨rfl, hw'⟩; obtain rfl := hw'.symm)
      | (go_at_call 40; (with_reducible refine (specDigit_c _ _).mono ?_); rintro e w' ⟨rfl, hw'⟩; obtain rfl := hw'.symm)
      | (go_at_call 42; (with_reducible refine (specLetter_c _ _).mono ?_); rintro e w' ⟨rfl, hw'⟩; obtain rfl := hw'.symm)
      | (go_at_call 43; (with_reducible refine (prefix_c s p _ h0 h1 hs6).mono ?_); rintro e w' ⟨he, hw'⟩; obtain rfl := hw'.symm; rw [HPX.out] at he; obtain rfl := he)
      | (go_at_call 46; (with_reducible refine (lSign_c s p _ g y hY h0 h1 hs6).mono ?_); rintro e w5 hn; rw [HSG.out] at hn; obtain ⟨q5, b5, he5⟩ := hn.tup; obtain rfl := he5))
    (try simp only [Exit.inBlock, Exit.then]); refine bodyPost_ret (results_tmp2 rfl _ _ _) rfl ?_
    exact hn
  | true =>
    have hpt := hp rfl
    clear hp
    go_enter Tryz.func30, Tryz.ntmps30
    go_wp2_with (first
      | (go_at_call 37; (with_reducible refine (specIdentPart_c _ _).mono ?_); rintro e w' ⟨rfl, hw'⟩; obtain rfl := hw'.symm)
      | (go_at_call 40; (with_reducible refine (specDigit_c _ _).mono ?_); rintro e w' ⟨rfl, hw'⟩; obtain rfl := hw'.symm)
      | (go_at_call 42; (with_reducible refine (specLetter_c _ _).mono ?_); rintro e w' ⟨rfl, hw'⟩; obtain rfl := hw'.symm)
      | (go_at_call 43; (with_reducible refine (prefix_c s p _ h0 h1 hs6).mono ?_); rintro e w' ⟨he, hw'⟩; obtain rfl := hw'.symm; rw [HPX.out] at he; obtain rfl := he)
      | (go_at_call 46; (with_reducible refine (lSign_c s p _ g y hY h0 h1 hs6).mono ?_); rintro e w5 hn; rw [HSG.out] at hn; obtain ⟨q5, b5, he5⟩ := hn.tup; obtain rfl := he5))
    (try simp only [Exit.inBlock, Exit.then]); refine bodyPost_ret (results_tmp2 rfl _ _ _) rfl ?_
    exact hn
set_option maxRecDepth 100000 in
set_option maxHeartbeats 8000000 in
theorem lt_sg64n (s : ByteArray) (p : Int) (path after : Bool) (w : World) (g : Nat) (y : Tt) (hY : IsT w g y) (hT : Txt s) (h0 : 0 ≤ p) (h1 : p < (s.size : Int)) (hp : path = true → isPart (bt s p) = false) (h64 : bt s p = 64) (h2 : p + 1 < (s.size : Int)) (hl2 : isLetter (bt s (p + 1)) = false) (h96 : (bt s p == 96) = false) (hd : isDigit (bt s p) = false) (hpx : pfx s 3 p false false = none) (hl : isLetter (bt s p) = false) :
    Calls Tryz.prog 30 #[.string s, .int .i64 p, .bool path, .bool after, .pointer (some ⟨g, 0, none⟩)] w (Tells g y (tok s after p) w) := by
  obtain ⟨R, hR⟩ : ∃ R, tok s after p = R := ⟨_, rfl⟩
  have HR := Aside0.mk hR
  rw [hR]
  clear hR
  have hs5 := hT.size
  have hs6 : (s.size : Int) ≤ 1000000 := by omega
  have wp1 := iwrap (p + 1) (by omega) (by omega)
  have p10 : 0 ≤ p + 1 := by omega
  have hne : (p == (s.size : Int)) = false := beqf (by omega)
  have hx := bt_at s p
  have hx1 := bt_at s (p + 1)
  have c0 := hY.c0
  have c3 := hY.c3
  have hz := hY.free
  have HPX : Aside0 (pfxV p (pfx s 3 p false false) = .tuple #[.int .i64 (-1), .bool false, .bool false]) := ⟨by rw [hpx]; rfl⟩
  have c64 : (bt s p == 64) = true := beq_iff_eq.2 h64
  have c46 : (bt s p == 46) = false := by rw [h64]; rfl
  have HSG : Aside0 (signR s p = R) := ⟨by rw [← HR.out]; exact (tok_sg h1 h96 hd (by rw [c46]; rfl) (by rw [hl2, Bool.and_false]) hpx hl).symm⟩
  clear hpx
  clear h64
  have dl := decide_eq_true h2
  cases path with
  | false =>
    clear hp
    go_enter Tryz.func30, Tryz.ntmps30
    go_wp2_with (first
      | (go_at_call 37; (with_reducible refine (specIdentPart_c _ _).mono ?_); rintro e w' ⟨rfl, hw'⟩; obtain rfl := hw'.symm)
      | (go_at_call 40; (with_reducible refine (specDigit_c _ _).mono ?_); rintro e w' ⟨rfl, hw'⟩; obtain rfl := hw'.symm)
      | (go_at_call 42; (with_reducible refine (specLetter_c _ _).mono ?_); rintro e w' ⟨rfl, hw'⟩; obtain rfl := hw'.symm)
      | (go_at_call 43; (with_reducible refine (prefix_c s p _ h0 h1 hs6).mono ?_); rintro e w' ⟨he, hw'⟩; obtain rfl := hw'.symm; rw [HPX.out] at he; obtain rfl := he)
      | (go_at_call 46; (with_reducible refine (lSign_c s p _ g y hY h0 h1 hs6).mono ?_); rintro e w5 hn; rw [HSG.out] at hn; obtain ⟨q5, b5, he5⟩ := hn.tup; obtain rfl := he5))
    (try simp only [Exit.inBlock, Exit.then]); refine bodyPost_ret (results_tmp2 rfl _ _ _) rfl ?_
    exact hn
  | true =>
    have hpt := hp rfl
    clear hp
    go_enter Tryz.func30, Tryz.ntmps30
    go_wp2_with (first
      | (go_at_call 37; (with_reducible refine (specIdentPart_c _ _).mono ?_); rintro e w' ⟨rfl, hw'⟩; obtain rfl := hw'.symm)
      | (go_at_call 40; (with_reducible refine (specDigit_c _ _).mono ?_); rintro e w' ⟨rfl, hw'⟩; obtain rfl := hw'.symm)
      | (go_at_call 42; (with_reducible refine (specLetter_c _ _).mono ?_); rintro e w' ⟨rfl, hw'⟩; obtain rfl := hw'.symm)
      | (go_at_call 43; (with_reducible refine (prefix_c s p _ h0 h1 hs6).mono ?_); rintro e w' ⟨he, hw'⟩; obtain rfl := hw'.symm; rw [HPX.out] at he; obtain rfl := he)
      | (go_at_call 46; (with_reducible refine (lSign_c s p _ g y hY h0 h1 hs6).mono ?_); rintro e w5 hn; rw [HSG.out] at hn; obtain ⟨q5, b5, he5⟩ := hn.tup; obtain rfl := he5))
    (try simp only [Exit.inBlock, Exit.then]); refine bodyPost_ret (results_tmp2 rfl _ _ _) rfl ?_
    exact hn
set_option maxRecDepth 100000 in
/-- At the text's end. -/
theorem lt_eof (s : ByteArray) (p : Int) (path after : Bool) (w : World) (g : Nat) (y : Tt) (hY : IsT w g y) (h1 : p = (s.size : Int)) :
    Calls Tryz.prog 30 #[.string s, .int .i64 p, .bool path, .bool after, .pointer (some ⟨g, 0, none⟩)] w (Tells g y (some (.eof, p)) w) := by
  have hne : (p == (s.size : Int)) = true := beq_iff_eq.2 h1
  have c0 := hY.c0
  have hz := hY.free
  go_enter Tryz.func30, Tryz.ntmps30
  go_wp2
  (try simp only [Exit.inBlock, Exit.then]); refine bodyPost_ret (results_tmp2 rfl _ _ _) rfl ?_
  exact ⟨rfl, (Ups.refl g w).set 0 _, _, _, _, kd_txt _ rfl, hY.set0 _⟩
set_option maxRecDepth 100000 in
set_option maxHeartbeats 1000000 in
/-- Behind a path's dot, where a name's byte stands. -/
theorem lt_path (s : ByteArray) (p : Int) (after : Bool) (w : World) (g : Nat) (y : Tt) (hY : IsT w g y) (hT : Txt s) (h0 : 0 ≤ p) (h1 : p < (s.size : Int)) (hp : isPart (bt s p) = true) :
    Calls Tryz.prog 30 #[.string s, .int .i64 p, .bool true, .bool after, .pointer (some ⟨g, 0, none⟩)] w (Tells g y (some (.field, run isPart s p)) w) := by
  have hs5 := hT.size
  have hs6 : (s.size : Int) ≤ 1000000 := by omega
  have hne : (p == (s.size : Int)) = false := beqf (by omega)
  have hx := bt_at s p
  have c0 := hY.c0
  have c3 := hY.c3
  have hz := hY.free
  have r0 := run_ge isPart s p
  have r1 := run_le (p := isPart) (s := s) (i := p) (by omega)
  have r2 : 0 ≤ run isPart s p := by omega
  go_enter Tryz.func30, Tryz.ntmps30
  go_wp2_with (first | (go_at_call 37; (with_reducible refine (specIdentPart_c _ _).mono ?_); rintro e w' ⟨rfl, hw'⟩; obtain rfl := hw'.symm) | (go_at_call 38; (with_reducible refine (lParts_c s (p) _ (by omega) (by omega) hs6).mono ?_); rintro e w' ⟨rfl, hw'⟩; obtain rfl := hw'.symm))
  go_region_held3 (fun _ => True) (exact trivial) (fail)
  go_wp2
  (try simp only [Exit.inBlock, Exit.then]); refine bodyPost_ret (results_tmp2 rfl _ _ _) rfl ?_
  exact ⟨rfl, (((Ups.refl g w).drewN _).set 0 _).set 3 _, _, _, _, kd_txt _ rfl, ((hY.drewN _).set0 _).set3 _⟩
/-- lToken: what it returns and writes. -/
theorem lToken_c (s : ByteArray) (p : Int) (path after : Bool) (w : World) (g : Nat) (y : Tt) (hY : IsT w g y) (hT : Txt s) (h0 : 0 ≤ p) (h1 : p ≤ (s.size : Int)) (hpa : path = true → after = false) :
    Calls Tryz.prog 30 #[.string s, .int .i64 p, .bool path, .bool after, .pointer (some ⟨g, 0, none⟩)] w (Tells g y (if path then tokF s p else tok s after p) w) := by
  by_cases he : p = (s.size : Int)
  · have ht : ∀ aft, tok s aft p = some (.eof, p) := fun aft => by unfold tok; rw [if_pos (by omega)]
    have hf : tokF s p = some (.eof, p) := by
      unfold tokF
      rw [bt_far s p (by omega), show isPart 0 = false from by decide]
      exact ht false
    have : (if path then tokF s p else tok s after p) = some (.eof, p) := by
      cases path
      · exact ht after
      · exact hf
    rw [this]
    exact lt_eof s p path after w g y hY he
  have h1 : p < (s.size : Int) := by omega
  by_cases hpp : path = true ∧ isPart (bt s p) = true
  · obtain ⟨rfl, hp⟩ := hpp
    have : tokF s p = some (.field, run isPart s p) := by unfold tokF; rw [if_pos hp]
    rw [if_pos rfl, this]
    exact lt_path s p after w g y hY hT h0 h1 hp
  have hp : path = true → isPart (bt s p) = false := fun h => by
    cases hq : isPart (bt s p) with
    | true => exact absurd ⟨h, hq⟩ hpp
    | false => rfl
  have hR : (if path then tokF s p else tok s after p) = tok s after p := by
    cases path with
    | false => rfl
    | true =>
      rw [if_pos rfl]
      unfold tokF
      rw [hp rfl, hpa rfl]
      rfl
  rw [hR]
  clear hR hpp
  by_cases h96 : bt s p = 96
  · exact lt_bq s p path after w g y hY hT h0 h1 hp h96
  have c96 := beqf h96
  cases hd : isDigit (bt s p) with
  | true => exact lt_num s p path after w g y hY hT h0 h1 hp c96 hd
  | false =>
    cases hpx : pfx s 3 p false false with
    | some c =>
      obtain ⟨q, raw, bytes⟩ := c
      have hnd : bt s p ≠ 46 ∧ bt s p ≠ 64 := by
        constructor <;> intro hb <;> (rw [pfx_not (k := 2) (by rw [hb]; decide) (by rw [hb]; decide) (by rw [hb]; decide)] at hpx; cases hpx)
      exact lt_lit s p path after w g y hY hT h0 h1 hp c96 hd (beqf hnd.1) (beqf hnd.2) q raw bytes hpx
    | none =>
      cases hl : isLetter (bt s p) with
      | true =>
        have hnd : bt s p ≠ 46 ∧ bt s p ≠ 64 := by
          constructor <;> intro hb <;> (rw [hb] at hl; revert hl; decide)
        exact lt_word s p path after w g y hY hT h0 h1 hp c96 hd (beqf hnd.1) (beqf hnd.2) hpx hl
      | false =>
        by_cases h46 : bt s p = 46
        · cases after with
          | true => exact lt_sg46a s p path true w g y hY hT h0 h1 hp h46 rfl c96 hd hpx hl
          | false =>
            by_cases h2 : p + 1 < (s.size : Int)
            · cases hd2 : isDigit (bt s (p + 1)) with
              | true => exact lt_dotnum s p path false w g y hY hT h0 h1 hp h46 rfl h2 hd2
              | false => exact lt_sg46n s p path false w g y hY hT h0 h1 hp h46 rfl h2 hd2 c96 hd hpx hl
            · exact lt_sg46e s p path false w g y hY hT h0 h1 hp h46 rfl (by omega) c96 hd hpx hl
        by_cases h64 : bt s p = 64
        · by_cases h2 : p + 1 < (s.size : Int)
          · cases hl2 : isLetter (bt s (p + 1)) with
            | true => exact lt_par s p path after w g y hY hT h0 h1 hp h64 hl2
            | false => exact lt_sg64n s p path after w g y hY hT h0 h1 hp h64 h2 hl2 c96 hd hpx hl
          · exact lt_sg64e s p path after w g y hY hT h0 h1 hp h64 (by omega) c96 hd hpx hl
        exact lt_sg s p path after w g y hY hT h0 h1 hp (beqf h46) (beqf h64) c96 hd hpx hl
end Go.Proofs.YtjepdlmcombmcaaGreatDoor.Lx
