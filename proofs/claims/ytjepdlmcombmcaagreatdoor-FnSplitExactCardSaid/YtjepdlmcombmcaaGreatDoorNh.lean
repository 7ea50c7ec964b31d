/- A position: what Position leaves. Conditions: the file's state; both places lie in the text, in order; the table of powers lies. -/
import Derived.Test.YtjepdlmcombmcaaGreatDoorGc
import Derived.Deep.RegionHeld3
namespace Go.Proofs.YtjepdlmcombmcaaGreatDoor.Lx
open Go.RowKit Go.Proofs.YtjepdlmcombmcaaGreatDoorW.PrintWords

theorem Pow10.block {w : World} (h : Pow10 w) : ∃ g cs t fr, Tryz.prog.globalNamed "internal/strconv.uint64pow10" = some g ∧ w.heap[g]? = some (.cells cs t fr) ∧ cs = (Lib.pow10Tab.map fun z => Value.int .u64 z).toArray := by
  unfold Pow10 Lib.TabIs World.var? at h
  cases hg : Tryz.prog.globalNamed "internal/strconv.uint64pow10" with
  | none => simp [hg] at h
  | some g =>
    simp only [hg, Option.bind_some] at h
    split at h
    · rename_i cs t fr hb
      exact ⟨g, cs, t, fr, rfl, hb, Option.some.inj h⟩
    · cases h
theorem Pow10.keep {w w1 : World} (h : Pow10 w) (hk : ∀ (g : Nat) (cs : Array Value) (t : TypeId) (fr : Nat × Nat), w.heap[g]? = some (.cells cs t fr) → cs = (Lib.pow10Tab.map fun z => Value.int .u64 z).toArray → w1.heap[g]? = some (.cells cs t fr)) : Pow10 w1 := by
  obtain ⟨g, cs, t, fr, hg, hb, rfl⟩ := h.block
  unfold Pow10 Lib.TabIs World.var?
  simp only [hg, Option.bind_some]
  rw [hk g _ t fr hb rfl]
theorem Pow10.below {w w1 : World} (h : Pow10 w) (hb : Below w.heap.size w w1) : Pow10 w1 := h.keep fun _ _ _ _ h1 _ => blk_below h1 hb
theorem Pow10.ups {w w1 : World} {b : Nat} {v : Value} {vs : List Value} {t : TypeId} (h : Pow10 w) (hU : Ups b w w1) (hB : ∃ fr, w.heap[b]? = some (.cells (v :: vs).toArray t fr)) (hv : ∀ z, v ≠ .int .u64 z) : Pow10 w1 := by
  refine h.keep fun g cs t' fr h1 he => hU.obj h1 ?_
  rintro rfl
  obtain ⟨fr', hB⟩ := hB
  rw [h1] at hB
  injection hB with hB
  injection hB with e1 e2 e3
  rw [he] at e1
  have e4 : (Lib.pow10Tab.map fun z => Value.int .u64 z) = v :: vs := by simpa using e1
  have e5 : (Lib.pow10Tab.map fun z => Value.int .u64 z)[0]? = some (Value.int .u64 (Lib.pow10Tab.getD 0 0)) := by kernel_rfl
  rw [e4] at e5
  simp only [List.getElem?_cons_zero, Option.some.injEq] at e5
  exact hv _ e5
theorem Pow10.drewN {w : World} (h : Pow10 w) (n : Nat) : Pow10 (w.drewN n) := h.keep fun _ _ _ _ h1 _ => h1
theorem Heads.up {L : List Int} {e : Int} (h : Heads L e) (i : Nat) : ∀ k, i + k < L.length → L.getD i 0 + k ≤ L.getD (i + k) 0 := by
  intro k
  induction k with
  | zero => intro _; simp
  | succ n ih =>
    intro hk
    have h1 := ih (by omega)
    have h2 := h.step (i + n) (by omega)
    have e1 : i + (n + 1) = i + n + 1 := by omega
    rw [e1]
    omega
theorem Heads.le_of {L : List Int} {e : Int} (h : Heads L e) {i j : Int} (h0 : 0 ≤ i) (hij : i ≤ j) (hj : j < (L.length : Int)) : L.getD i.toNat 0 + (j - i) ≤ L.getD j.toNat 0 := by
  have h1 := h.up i.toNat (j - i).toNat (by omega)
  have e1 : i.toNat + (j - i).toNat = j.toNat := by omega
  rw [e1] at h1
  omega
theorem Heads.top {L : List Int} {e : Int} (h : Heads L e) {i : Int} (h0 : 0 ≤ i) (hi : i < (L.length : Int)) : L.getD i.toNat 0 ≤ e := by
  have h1 := h.le_of h0 (j := (L.length : Int) - 1) (by omega) (by omega)
  have e1 : ((L.length : Int) - 1).toNat = L.length - 1 := by omega
  rw [e1, h.last] at h1
  omega

set_option maxRecDepth 100000 in
set_option maxHeartbeats 2000000 in
theorem position_c (fb B : Nat) (s : ByteArray) (p q : Int) (w : World) (hF : FileOk w fb B s) (hB : B ≤ w.heap.size) (hs5 : (s.size : Int) ≤ 5000) (hp0 : 0 ≤ p) (hpq : p ≤ q) (hq : q ≤ (s.size : Int)) (htab : Pow10 w) :
    Calls Tryz.prog 104 #[.pointer (some ⟨fb, 0, none⟩), .int .i64 p, .int .i64 q] w fun e w' => (∃ g, e = .returned (.pointer (some ⟨g, 0, none⟩)) ∧ w.heap.size ≤ g) ∧ Ups fb w w' := by
  have hs : (s.size : Int) ≤ 1000000 := by omega
  go_enter Tryz.func104, Tryz.ntmps104
  go_upto_region 3 with (first
    | (go_at_call 122; (with_reducible refine (resolve_c fb B s p _ hF hB hs hp0 (by omega)).mono ?_); rintro e w1 ⟨i1, v1, L1, rfl, hO1, hU1, hI1⟩; obtain ⟨path, h1, h2, h3⟩ := id hI1; obtain ⟨g1, cap1, rfl, hg1, hlc1, hc1⟩ := h2.form h3.pos;
       have F0 : ∀ o, (w1.alloc o).cell? ⟨fb, 0, none⟩ = some (.string path) := (fun o => (blk_cell (blk_alloc h1 o) 0).trans rfl);
       have F1 : ∀ o, (w1.alloc o).cell? ⟨fb, 1, none⟩ = some (.string s) := (fun o => (blk_cell (blk_alloc h1 o) 1).trans rfl);
       have F2 : ∀ o, (w1.alloc o).cell? ⟨fb, 2, none⟩ = some (.slice (some ⟨g1, 0, none⟩) L1.length cap1) := (fun o => (blk_cell (blk_alloc h1 o) 2).trans rfl);
       have HO1 := Aside0.mk hO1; have HH := Aside0.mk h3; have hg1s := own_lt h2 g1 rfl; have HC := Aside0.mk hc1; clear hO1 h2 h3 hc1)
    | (go_at_call 122; (with_reducible refine (resolveI_c fb B s _ L1 q _ hI1 hs (by omega) hq).mono ?_); rintro e w2 ⟨i2, rfl, hO2, rfl⟩)
    | (go_at_call 123; (with_reducible refine (invalid_c p _ hp0).mono ?_); rintro e w' ⟨rfl, rfl⟩)
    | (go_at_call 123; (with_reducible refine (invalid_c q _ (by omega)).mono ?_); rintro e w' ⟨rfl, rfl⟩))
  have hll : (L1.length : Int) ≤ 5002 := by have h := HH.out.le (L1.length - 1) 0 (by have := HH.out.pos; omega); rw [HH.out.head] at h; have := HH.out.pos; omega
  obtain ⟨a0, a1, a2, a3⟩ := HO1.out
  obtain ⟨b0, b1, b2, b3⟩ := id hO2
  obtain ⟨x1, hx1⟩ : ∃ x, L1.getD i1.toNat 0 = x := ⟨_, rfl⟩
  obtain ⟨y1, hy1⟩ : ∃ x, L1.getD (i1 + 1).toNat 0 = x := ⟨_, rfl⟩
  have hba := below_alloc (Below.refl w2.heap.size w2) (.cells #[.slice none 0 0, .int .i64 0, .int .i8 0] 220)
  have c1 := (hba.cell (p := ⟨g1, i1.toNat, none⟩) hg1s).trans (HC.out i1.toNat (by omega))
  have c2 := (hba.cell (p := ⟨g1, (i1 + 1).toNat, none⟩) hg1s).trans (HC.out (i1 + 1).toNat (by omega))
  rw [hx1] at c1
  rw [hy1] at c2
  have hx0 : 0 ≤ x1 := by have h := HH.out.mono i1.toNat (by omega); rw [hx1] at h; exact h
  have hxy : x1 + 1 ≤ y1 := by have h := HH.out.le_of (i := i1) (j := i1 + 1) a0 (by omega) (by omega); rw [hx1, hy1] at h; omega
  have hy2 : y1 ≤ (s.size : Int) + 1 := by have h := HH.out.top (i := i1 + 1) (by omega) (by omega); rw [hy1] at h; exact h
  have hle : i1 ≤ i2 := by
    by_cases h : i1 ≤ i2
    · exact h
    · have h1 := HH.out.le_of (i := i2 + 1) (j := i1) (by omega) (by omega) (by omega)
      omega
  have hbuf := Buf.first w2
  have g0 := F0 (.cells #[.slice none 0 0, .int .i64 0, .int .i8 0] 220)
  have g1' := F1 (.cells #[.slice none 0 0, .int .i64 0, .int .i8 0] 220)
  have g2 := F2 (.cells #[.slice none 0 0, .int .i64 0, .int .i8 0] 220)
  clear F0 F1 F2
  have hUb := hU1.below hba
  have hpw : Pow10 w2 := by
    rcases hF with ⟨pt, h⟩ | ⟨v0, L0, pt, h, _⟩
    · exact htab.ups hU1 ⟨_, h⟩ (fun z => by simp)
    · exact htab.ups hU1 ⟨_, h⟩ (fun z => by simp)
  have hpb := hpw.below hba
  have hsz : (w2.alloc (.cells #[.slice none 0 0, .int .i64 0, .int .i8 0] 220)).heap.size = w2.heap.size + 1 := by simp [go_sem]
  have hw2 := hU1.size
  by_cases h12 : i1 = i2
  · subst h12
    have hw := iwrap (i1 + 1) (by omega) (by omega)
    have hwy := iwrap (y1 - 1) (by omega) (by omega)
    go_wp2
    have hfb := hba
    have hU0 := hUb
    clear hba hUb
    generalize w2.alloc (.cells #[.slice none 0 0, .int .i64 0, .int .i8 0] 220) = W at *
    go_quiet (fail)
    have hx1' : L1[i1.toNat]?.getD 0 = x1 := by rw [← hx1]; simp
    have hcol1 : x1 ≤ p := by rw [← hx1]; exact a2
    clear hx1 a2 a3 b2 b3 hO2
    have hle2 : (s.extract x1.toNat (y1.toNat - 1)).size ≤ 1000000 := by rw [ByteArray.size_extract]; omega
    have hw3 := iwrap ((q - x1) - (p - x1)) (by omega) (by omega)
    have hw4 := iwrap ((q - x1) - (p - x1) - 1) (by omega) (by omega)
    have hin : ∀ k, Pow10 (W.drewN k) := fun k => hpb.drewN k
    have hi2 : i1 + 1 ≤ 1000002 := by omega
    have hi0 : 0 ≤ i1 + 1 := by omega
    generalize hln : s.extract x1.toNat (y1.toNat - 1) = ln at *
    have HBu : ∀ k w', Below (W.drewN k).heap.size (W.drewN k) w' → Buf w2.heap.size w2.heap.size w' 0 := fun k w' h => (hbuf.drewN k).below h
    have HSz : ∀ k w', Below (W.drewN k).heap.size (W.drewN k) w' → w2.heap.size ≤ w'.heap.size := fun k w' h => (by have h1 := h.size; have h2 : (W.drewN k).heap.size = W.heap.size := rfl; omega)
    have c0 : 0 ≤ p - x1 := by omega
    have c1' : p - x1 ≤ 1000002 := by omega
    have d0 : 0 ≤ max ((q - x1) - (p - x1) - 1) 0 := by omega
    have d1 : max ((q - x1) - (p - x1) - 1) 0 ≤ 1000002 := by omega
    go_wp2_with (first
      | (go_at_call 125; (with_reducible refine (zzPad_c (i1 + 1) _ (by omega) (by omega) (hin _)).mono ?_); rintro e w3 ⟨⟨t3, rfl, ht3⟩, hb3⟩;
         have z1 : ¬ 9223372036854775807 < t3.size + 3 := (by omega); have z2 : ¬ 9223372036854775807 < t3.size + 3 + ln.size := (by omega); have z3 : ¬ 9223372036854775807 < t3.size + 3 + ln.size + 1 := (by omega);
         have hB3 := HBu _ _ hb3; have hS3 := HSz _ _ hb3;
         have hz3 : 0 + (t3 ++ ⟨#[124, 32, 32]⟩ ++ ln ++ ⟨#[10]⟩).size ≤ 1000000000 := (by simp only [ByteArray.size_append]; show 0 + (t3.size + 3 + ln.size + 1) ≤ _; omega))
      | (go_at_call 124; (with_reducible refine (writeS_c w2.heap.size w2.heap.size 0 _ w3 hB3 hS3 hz3).mono ?_); rintro e w4 ⟨⟨k4, rfl⟩, hB4, hb4⟩)
      | (go_at_call 126; (with_reducible refine (repeat_c _ _ w4 c0 c1' rfl).mono ?_); rintro e w5 ⟨⟨t5, rfl, ht5⟩, hb5⟩)
      | (go_at_call 126; (with_reducible refine (repeat_c _ _ w5 d0 d1 rfl).mono ?_); rintro e w6 ⟨⟨t6, rfl, ht6⟩, hb6⟩;
         have y1 : ¬ 9223372036854775807 < 6 + t5.size := (by omega); have y2 : ¬ 9223372036854775807 < 6 + t5.size + 1 := (by omega); have y3 : ¬ 9223372036854775807 < 6 + t5.size + 1 + t6.size := (by omega);
         have hB6 := (hB4.below hb5).below hb6; have hS6 : w2.heap.size ≤ w6.heap.size := (Nat.le_trans (Nat.le_trans (Nat.le_trans hS3 (by have := hb4.size; omega)) hb5.size) hb6.size);
         have hz6 : (0 + (t3 ++ ⟨#[124, 32, 32]⟩ ++ ln ++ ⟨#[10]⟩).size) + ((⟨#[32, 32, 32, 124, 32, 32]⟩ : ByteArray) ++ t5 ++ ⟨#[94]⟩ ++ t6).size ≤ 1000000000 := (by simp only [ByteArray.size_append]; show (0 + (t3.size + 3 + ln.size + 1)) + (6 + t5.size + 1 + t6.size) ≤ _; omega))
      | (go_at_call 124; (with_reducible refine (writeS_c w2.heap.size w2.heap.size _ _ w6 hB6 hS6 hz6).mono ?_); rintro e w7 ⟨⟨k7, rfl⟩, hB7, hb7⟩))
    have hfb' : Below w2.heap.size w2 (W.drewN nq) := ⟨hfb.os, hfb.tape, hfb.output, hfb.size, hfb.block⟩
    have hz' : w2.heap.size ≤ (W.drewN nq).heap.size := hfb'.size
    have hS4 : w2.heap.size ≤ w4.heap.size := Nat.le_trans hS3 hb4.size
    have hS5 : w2.heap.size ≤ w5.heap.size := Nat.le_trans hS4 hb5.size
    have hB27 : Below w2.heap.size w2 w7 := ((((hfb'.trans (hb3.mono hz')).trans hb4).trans (hb5.mono hS4)).trans (hb6.mono hS5)).trans hb7
    have G0 : w7.cell? ⟨fb, 0, none⟩ = some (.string path) := (blk_cell (blk_below h1 hB27) 0).trans rfl
    have hUe := hU1.below hB27
    generalize (0 + (t3 ++ ⟨#[124, 32, 32]⟩ ++ ln ++ ⟨#[10]⟩).size) + ((⟨#[32, 32, 32, 124, 32, 32]⟩ : ByteArray) ++ t5 ++ ⟨#[94]⟩ ++ t6).size = nn at hB7
    have hS7 : w2.heap.size ≤ w7.heap.size := hB27.size
    clear hb3 hb4 hb5 hb6 hb7 hB3 hB4 hB6 hz3 hz6 z1 z2 z3 y1 y2 y3 HBu HSz hin g0 g1' g2 c1 c2 hfb hfb' hbuf
    have hBd : Buf w2.heap.size w2.heap.size w7.drew nn := hB7
    go_region_held3 (fun w' => w'.cell? ⟨fb, 0, none⟩ = some (.string path))
      (first | go_keep | exact G0)
      (first | (go_at_call 127; refine (bufString_c w2.heap.size w2.heap.size nn _ hBd).mono ?_; rintro e w' ⟨⟨t, rfl⟩, k, rfl⟩))
    go_wp2
    go_ret
    exact ⟨⟨w7.heap.size, rfl, by omega⟩, (hUe.drewN _).alloc _⟩
  · have hlt : i1 < i2 := by omega
    have hd1 : (i1 == i2) = false := beqf h12
    have hd2 : decide (i1 < i2) = true := decide_eq_true hlt
    have h2w := h1
    have HBuf := hbuf
    have hba0 := hba
    have HG : ∀ W : World, Below w2.heap.size w2 W → W.cell? ⟨fb, 0, none⟩ = some (.string path) ∧ W.cell? ⟨fb, 1, none⟩ = some (.string s) ∧ W.cell? ⟨fb, 2, none⟩ = some (.slice (some ⟨g1, 0, none⟩) L1.length cap1) ∧ (∀ i : Nat, i < L1.length → W.cell? ⟨g1, i, none⟩ = some (.int .i64 (L1.getD i 0))) := fun W hW =>
      ⟨(blk_cell (blk_below h2w hW) 0).trans rfl, (blk_cell (blk_below h2w hW) 1).trans rfl, (blk_cell (blk_below h2w hW) 2).trans rfl, fun i hi => (hW.cell (p := ⟨g1, i, none⟩) hg1s).trans (HC.out i hi)⟩
    have HGA := Aside0.mk HG
    have HBA := Aside0.mk hba0
    have HPA := Aside0.mk hpw
    have HUA := Aside0.mk hU1
    have HBF := Aside0.mk HBuf
    have hb2 := b1
    clear HG hba0 hpb hUb HBuf hbuf hba c1 c2 hx1 hy1 hx0 hxy hy2 a1 a2 a3 b1 b2 b3 hO2 hU1 hpw hF hI1 h1 h2w
    go_wp2
    go_loopg [14] (i2 + 2 - i1).toNat (fun kq v14 wr => ∃ (l : Int) (n : Nat), v14 = .int .i64 l ∧ Aside0 (i1 ≤ l ∧ l ≤ i2 + 1 ∧ (i2 + 1 - l).toNat < kq ∧ (n : Int) ≤ (l - i1) * 6000) ∧ Aside0 (Below w2.heap.size w2 wr ∧ Buf w2.heap.size w2.heap.size wr n))
    case atStart => exact ⟨i1, 0, rfl, ⟨by omega, by omega, by omega, by omega⟩, ⟨HBA.out, HBF.out⟩⟩
    case round =>
      obtain ⟨l, n, rfl, HA, HW⟩ := hrel
      obtain ⟨hbel, hbuf⟩ := HW.out
      have hpw := HPA.out.below hbel
      have l0 := HA.out.1
      have l1 := HA.out.2.1
      have l3 := HA.out.2.2.2
      have l00 : 0 ≤ l := by omega
      have l01 : 0 ≤ l + 1 := by omega
      clear HW g0 g1' g2
      by_cases hl : l ≤ i2
      · obtain ⟨x1, hx1⟩ : ∃ x, L1.getD l.toNat 0 = x := ⟨_, rfl⟩
        obtain ⟨y1, hy1⟩ : ∃ x, L1.getD (l + 1).toNat 0 = x := ⟨_, rfl⟩
        have hx0 : 0 ≤ x1 := by have h := HH.out.mono l.toNat (by omega); rw [hx1] at h; exact h
        have hxy : x1 + 1 ≤ y1 := by have h := HH.out.le_of (i := l) (j := l + 1) (by omega) (by omega) (by omega); rw [hx1, hy1] at h; omega
        have hy2 : y1 ≤ (s.size : Int) + 1 := by have h := HH.out.top (i := l + 1) (by omega) (by omega); rw [hy1] at h; exact h
        have hle2 : (s.extract x1.toNat (y1.toNat - 1)).size ≤ 5000 := by rw [ByteArray.size_extract]; omega
        have hwl := iwrap (l + 1) (by omega) (by omega)
        have hwy := iwrap (y1 - 1) (by omega) (by omega)
        have hX := Aside0.mk hx1
        have hY := Aside0.mk hy1
        clear hx1 hy1
        by_cases hl0 : 0 < l
        · have hdl : decide (0 < l) = true := decide_eq_true hl0
          have hz1 : n + (⟨#[10]⟩ : ByteArray).size ≤ 1000000000 := by show n + 1 ≤ _; omega
          have hsr := hbel.size
          go_wp2_with (first
            | (go_at_call 124; (with_reducible refine (writeS_c w2.heap.size w2.heap.size n _ wr hbuf hsr hz1).mono ?_); rintro e wA ⟨⟨kA, rfl⟩, hBA, hbA⟩;
               have hbelA := hbel.trans hbA; have hpA := HPA.out.below hbelA;
               obtain ⟨f0, f1, f2, fc⟩ := HGA.out _ hbelA; have c1 := fc l.toNat (by omega); have c2 := fc (l + 1).toNat (by omega); rw [hX.out] at c1; rw [hY.out] at c2; clear fc))
          go_quiet (fail)
          generalize hln : s.extract x1.toNat (y1.toNat - 1) = ln at *
          have hsA := hbelA.size
          go_wp2_with (first
            | (go_at_call 125; (with_reducible refine (zzPad_c (l + 1) _ (by omega) (by omega) (hpA.drewN _)).mono ?_); rintro e w3 ⟨⟨t3, rfl, ht3⟩, hb3⟩;
               have z1 : ¬ 9223372036854775807 < t3.size + 3 := (by omega); have z2 : ¬ 9223372036854775807 < t3.size + 3 + ln.size := (by omega);
               have hB3 := (hBA.drewN _).below hb3; have hS3 : w2.heap.size ≤ w3.heap.size := Nat.le_trans hsA hb3.size;
               have hz3 : (n + (⟨#[10]⟩ : ByteArray).size) + (t3 ++ ⟨#[124, 32, 32]⟩ ++ ln).size ≤ 1000000000 := (by simp only [ByteArray.size_append]; show (n + (⟨#[10]⟩ : ByteArray).size) + (t3.size + 3 + ln.size) ≤ _; show n + 1 + _ ≤ _; omega))
            | (go_at_call 124; (with_reducible refine (writeS_c w2.heap.size w2.heap.size _ _ w3 hB3 hS3 hz3).mono ?_); rintro e w4 ⟨⟨k4, rfl⟩, hB4, hb4⟩))
          have hbelW : Below w2.heap.size w2 (wA.drewN nq) := ⟨hbelA.os, hbelA.tape, hbelA.output, hbelA.size, hbelA.block⟩
          have hbel4 := (hbelW.trans (hb3.mono hbelW.size)).trans hb4
          have hn4 : (n + (⟨#[10]⟩ : ByteArray).size) + (t3 ++ ⟨#[124, 32, 32]⟩ ++ ln).size = (n + (⟨#[10]⟩ : ByteArray).size) + (t3.size + 3 + ln.size) := by simp only [ByteArray.size_append]; rfl
          rw [hn4] at hB4
          go_roundg (i2 + 1 - l).toNat
          case measure => have := HA.out.2.2.1; omega
          case rel => exact ⟨l + 1, _, rfl, ⟨by omega, by omega, by omega, by show ((n + 1 + (t3.size + 3 + ln.size) : Nat) : Int) ≤ _; omega⟩, ⟨hbel4, hB4⟩⟩
        · have hdl : decide (0 < l) = false := decide_eq_false hl0
          obtain ⟨f0, f1, f2, fc⟩ := HGA.out _ hbel
          have c1 := fc l.toNat (by omega)
          have c2 := fc (l + 1).toNat (by omega)
          rw [hX.out] at c1
          rw [hY.out] at c2
          clear fc
          go_wp2
          go_quiet (fail)
          generalize hln : s.extract x1.toNat (y1.toNat - 1) = ln at *
          have hsA := hbel.size
          go_wp2_with (first
            | (go_at_call 125; (with_reducible refine (zzPad_c (l + 1) _ (by omega) (by omega) (hpw.drewN _)).mono ?_); rintro e w3 ⟨⟨t3, rfl, ht3⟩, hb3⟩;
               have z1 : ¬ 9223372036854775807 < t3.size + 3 := (by omega); have z2 : ¬ 9223372036854775807 < t3.size + 3 + ln.size := (by omega);
               have hB3 := (hbuf.drewN _).below hb3; have hS3 : w2.heap.size ≤ w3.heap.size := Nat.le_trans hsA hb3.size;
               have hz3 : n + (t3 ++ ⟨#[124, 32, 32]⟩ ++ ln).size ≤ 1000000000 := (by simp only [ByteArray.size_append]; show n + (t3.size + 3 + ln.size) ≤ _; omega))
            | (go_at_call 124; (with_reducible refine (writeS_c w2.heap.size w2.heap.size _ _ w3 hB3 hS3 hz3).mono ?_); rintro e w4 ⟨⟨k4, rfl⟩, hB4, hb4⟩))
          have hbelW : Below w2.heap.size w2 (wr.drewN nq) := ⟨hbel.os, hbel.tape, hbel.output, hbel.size, hbel.block⟩
          have hbel4 := (hbelW.trans (hb3.mono hbelW.size)).trans hb4
          have hn4 : n + (t3 ++ ⟨#[124, 32, 32]⟩ ++ ln).size = n + (t3.size + 3 + ln.size) := by simp only [ByteArray.size_append]; rfl
          rw [hn4] at hB4
          go_roundg (i2 + 1 - l).toNat
          case measure => have := HA.out.2.2.1; omega
          case rel => exact ⟨l + 1, _, rfl, ⟨by omega, by omega, by omega, by omega⟩, ⟨hbel4, hB4⟩⟩
      · have hdl : decide (l ≤ i2) = false := decide_eq_false hl
        go_wp2
        have G0 := (HGA.out _ hbel).1
        have hBd : Buf w2.heap.size w2.heap.size wr.drew n := hbuf
        have hUe := HUA.out.below hbel
        have hS7 := hbel.size
        clear hbuf hbel hpw
        go_region_held3 (fun w' => w'.cell? ⟨fb, 0, none⟩ = some (.string path))
          (first | go_keep | exact G0)
          (first | (go_at_call 127; refine (bufString_c w2.heap.size w2.heap.size n _ hBd).mono ?_; rintro e w' ⟨⟨t, rfl⟩, k, rfl⟩))
        go_wp2
        go_ret
        exact ⟨⟨wr.heap.size, rfl, by omega⟩, (hUe.drewN _).alloc _⟩
end Go.Proofs.YtjepdlmcombmcaaGreatDoor.Lx
