/- The reference's token while it is made; its signs: what lSign returns and writes. Conditions: the token lies in a block of its own; the place lies in the text. -/
import Derived.Test.YtjepdlmcombmcaaGreatDoorGb
namespace Go.Proofs.YtjepdlmcombmcaaGreatDoor.Lx
open Go.RowKit Go.Proofs.YtjepdlmcombmcaaGreatDoorW.PrintWords

/-- The reference's token as a record. -/
structure Tt where
  kind : ByteArray
  sp : ByteArray
  raw : ByteArray
  txt : ByteArray
  base : Int
  tp : Int
  te : Int
  com : Value
def Tt.cells (y : Tt) : Array Value := #[.string y.kind, .string y.sp, .string y.raw, .string y.txt, .int .i64 y.base, .int .i64 y.tp, .int .i64 y.te, y.com]
/-- The token at block g is y. -/
def IsT (w : World) (g : Nat) (y : Tt) : Prop := w.heap[g]? = some (.cells y.cells 45 (0, 0))
section
variable {w : World} {g : Nat} {y : Tt}
theorem IsT.c0 (h : IsT w g y) : w.cell? ⟨g, 0, none⟩ = some (.string y.kind) := (blk_cell h 0).trans rfl
theorem IsT.c1 (h : IsT w g y) : w.cell? ⟨g, 1, none⟩ = some (.string y.sp) := (blk_cell h 1).trans rfl
theorem IsT.c2 (h : IsT w g y) : w.cell? ⟨g, 2, none⟩ = some (.string y.raw) := (blk_cell h 2).trans rfl
theorem IsT.c3 (h : IsT w g y) : w.cell? ⟨g, 3, none⟩ = some (.string y.txt) := (blk_cell h 3).trans rfl
theorem IsT.c4 (h : IsT w g y) : w.cell? ⟨g, 4, none⟩ = some (.int .i64 y.base) := (blk_cell h 4).trans rfl
theorem IsT.c5 (h : IsT w g y) : w.cell? ⟨g, 5, none⟩ = some (.int .i64 y.tp) := (blk_cell h 5).trans rfl
theorem IsT.c6 (h : IsT w g y) : w.cell? ⟨g, 6, none⟩ = some (.int .i64 y.te) := (blk_cell h 6).trans rfl
theorem IsT.c7 (h : IsT w g y) : w.cell? ⟨g, 7, none⟩ = some y.com := (blk_cell h 7).trans rfl
theorem IsT.free (h : IsT w g y) (i : Nat) : w.frozen? ⟨g, i, none⟩ = false := blk_frozen h i
theorem IsT.lt (h : IsT w g y) : g < w.heap.size := blk_lt h
theorem IsT.drewN (h : IsT w g y) (n : Nat) : IsT (w.drewN n) g y := h
theorem IsT.drew (h : IsT w g y) : IsT w.drew g y := h
theorem IsT.alloc (h : IsT w g y) (o : Obj) : IsT (w.alloc o) g y := blk_alloc h o
theorem IsT.below {w1 : World} (h : IsT w g y) (hb : Below w.heap.size w w1) : IsT w1 g y := blk_below h hb
theorem IsT.set0 (h : IsT w g y) (v : ByteArray) : IsT (w.setCell ⟨g, 0, none⟩ (.string v)) g { y with kind := v } := (blk_set h 0 _).trans rfl
theorem IsT.set1 (h : IsT w g y) (v : ByteArray) : IsT (w.setCell ⟨g, 1, none⟩ (.string v)) g { y with sp := v } := (blk_set h 1 _).trans rfl
theorem IsT.set2 (h : IsT w g y) (v : ByteArray) : IsT (w.setCell ⟨g, 2, none⟩ (.string v)) g { y with raw := v } := (blk_set h 2 _).trans rfl
theorem IsT.set3 (h : IsT w g y) (v : ByteArray) : IsT (w.setCell ⟨g, 3, none⟩ (.string v)) g { y with txt := v } := (blk_set h 3 _).trans rfl
theorem IsT.set4 (h : IsT w g y) (v : Int) : IsT (w.setCell ⟨g, 4, none⟩ (.int .i64 v)) g { y with base := v } := (blk_set h 4 _).trans rfl
theorem IsT.set5 (h : IsT w g y) (v : Int) : IsT (w.setCell ⟨g, 5, none⟩ (.int .i64 v)) g { y with tp := v } := (blk_set h 5 _).trans rfl
theorem IsT.set6 (h : IsT w g y) (v : Int) : IsT (w.setCell ⟨g, 6, none⟩ (.int .i64 v)) g { y with te := v } := (blk_set h 6 _).trans rfl
theorem IsT.set7 (h : IsT w g y) (v : Value) : IsT (w.setCell ⟨g, 7, none⟩ v) g { y with com := v } := (blk_set h 7 _).trans rfl
end
/-- What a reader of the reference leaves: where the token ends, and its kind; or that it is none. -/
def Tells (g : Nat) (y : Tt) (r : Option (Kd × Int)) (w : World) (e : Ending) (w' : World) : Prop :=
  match r with
  | some (k, q) => e = .returned (.tuple #[.int .i64 q, .bool true]) ∧ Ups g w w' ∧ ∃ K T B, kd K.toList = k ∧ IsT w' g { y with kind := K, txt := T, base := B }
  | none => (∃ q : Int, e = .returned (.tuple #[.int .i64 q, .bool false])) ∧ Ups g w w' ∧ ∃ K T B, IsT w' g { y with kind := K, txt := T, base := B }
def signR (s : ByteArray) (p : Int) : Option (Kd × Int) := if isSign2 (bt s p) (bt s (p + 1)) then some (.other, p + 2) else if isSign1 (bt s p) then some (sgn (bt s p), p + 1) else none

def symText : ByteArray := ⟨#[60, 60, 62, 62, 60, 61, 62, 61, 60, 62, 33, 61, 124, 124, 61, 62, 45, 62, 124, 62, 64, 64]⟩
def signText : ByteArray := ⟨#[40, 41, 91, 93, 123, 125, 44, 59, 58, 46, 64, 61, 60, 62, 43, 45, 42, 47, 38, 94, 37, 124, 126, 36, 63, 92]⟩
def syms : List (UInt8 × UInt8) := [(60, 60), (62, 62), (60, 61), (62, 61), (60, 62), (33, 61), (124, 124), (61, 62), (45, 62), (124, 62), (64, 64)]
theorem sym_at : ∀ k : Fin 11, symText.extract (2 * (k : Int)).toNat (2 * (k : Int) + 2).toNat = ⟨#[(syms[k]).1, (syms[k]).2]⟩ ∧ (syms[k]).1.toNat ≠ 0 ∧ (syms[k]).2.toNat ≠ 0 ∧ kd [(syms[k]).1, (syms[k]).2] = .other := by decide
theorem sym_any (c d : Int) : isSign2 c d = syms.any (fun q => c == (q.1.toNat : Int) && d == (q.2.toNat : Int)) := by
  rw [Bool.eq_iff_iff]
  unfold isSign2 syms
  simp only [List.any_cons, List.any_nil, Bool.or_eq_true, Bool.and_eq_true, beq_iff_eq, Bool.false_eq_true, or_false]
  simp only [show ((60 : UInt8).toNat : Int) = 60 from rfl, show ((61 : UInt8).toNat : Int) = 61 from rfl, show ((62 : UInt8).toNat : Int) = 62 from rfl, show ((33 : UInt8).toNat : Int) = 33 from rfl, show ((124 : UInt8).toNat : Int) = 124 from rfl, show ((45 : UInt8).toNat : Int) = 45 from rfl, show ((64 : UInt8).toNat : Int) = 64 from rfl]
  grind
theorem sign_one' : ∀ k : Fin 26, kd (signText.extract (k : Int).toNat ((k : Int) + 1).toNat).data.toList = sgn (bt signText (k : Int)) ∧ isSign1 (bt signText (k : Int)) = true := by decide
theorem sign_one (k : Fin 26) : kd (signText.extract (k : Int).toNat ((k : Int) + 1).toNat).toList = sgn (bt signText (k : Int)) ∧ isSign1 (bt signText (k : Int)) = true := by
  rw [ByteArray.toList_eq]
  exact sign_one' k
theorem sign_all : ∀ c ∈ signs1, ∃ k : Fin 26, bt signText (k : Int) = c := by decide
set_option maxRecDepth 100000 in
set_option maxHeartbeats 4000000 in
theorem lSign_c (s : ByteArray) (p : Int) (w : World) (g : Nat) (y : Tt) (hY : IsT w g y) (h0 : 0 ≤ p) (h1 : p < (s.size : Int)) (hs : (s.size : Int) ≤ 1000000) :
    Calls Tryz.prog 46 #[.string s, .int .i64 p, .pointer (some ⟨g, 0, none⟩)] w (Tells g y (signR s p) w) := by
  obtain ⟨R, hR⟩ : ∃ R, signR s p = R := ⟨_, rfl⟩
  have HR := Aside0.mk hR
  rw [hR]
  clear hR
  have w2 := iwrap (p + 2) (by omega) (by omega)
  have w1 := iwrap (p + 1) (by omega) (by omega)
  have hK0 := hY.c0
  have hZ := hY.free
  go_enter Tryz.func46, Tryz.ntmps46
  obtain ⟨K, hK⟩ : ∃ K, symText = K := ⟨_, rfl⟩
  obtain ⟨L, hL⟩ : ∃ L, signText = L := ⟨_, rfl⟩
  rw [show (⟨#[60, 60, 62, 62, 60, 61, 62, 61, 60, 62, 33, 61, 124, 124, 61, 62, 45, 62, 124, 62, 64, 64]⟩ : ByteArray) = K from hK, show (⟨#[40, 41, 91, 93, 123, 125, 44, 59, 58, 46, 64, 61, 60, 62, 43, 45, 42, 47, 38, 94, 37, 124, 126, 36, 63, 92]⟩ : ByteArray) = L from hL]
  have HK := Aside0.mk hK
  have HL := Aside0.mk hL
  have hks : (K.size : Int) = 22 := by rw [← hK]; rfl
  have hls : (L.size : Int) = 26 := by rw [← hL]; rfl
  clear hK hL
  go_wp2
  go_loopg [8] 12 (fun kq v8 wr => ∃ k : Nat, v8 = .int .i64 (2 * (k : Int)) ∧ Aside0 (k ≤ 11 ∧ (∀ j : Fin 11, (j : Nat) < k → (bt s p == ((syms[j]).1.toNat : Int) && bt s (p + 1) == ((syms[j]).2.toNat : Int)) = false) ∧ 11 - k < kq) ∧ wr = w)
  case atStart => exact ⟨0, rfl, ⟨by omega, fun j h => by omega, by omega⟩, rfl⟩
  case round =>
    obtain ⟨k, rfl, HA, rfl⟩ := hrel
    have k11 := HA.out.1
    have w3 := iwrap (2 * (k : Int) + 2) (by omega) (by omega)
    by_cases hk : (k : Int) < 11
    · have hd : decide (2 * (k : Int) < 22) = true := decide_eq_true (by omega)
      have b1 : (0 : Int) ≤ 2 * (k : Int) := by omega
      have b2 : 2 * (k : Int) ≤ 2 * (k : Int) + 2 := by omega
      have b3 : 2 * (k : Int) + 2 ≤ (K.size : Int) := by omega
      have b4 : (0 : Int) ≤ 2 * (k : Int) + 2 := by omega
      have hk' : k < 11 := by omega
      obtain ⟨c, d, hT, hc, hdd, hkd, hbb⟩ : ∃ c d : UInt8, K.extract (2 * (k : Int)).toNat (2 * (k : Int) + 2).toNat = ⟨#[c, d]⟩ ∧ c.toNat ≠ 0 ∧ d.toNat ≠ 0 ∧ Aside0 (kd [c, d] = .other) ∧ Aside0 (c = (syms[(⟨k, hk'⟩ : Fin 11)]).1 ∧ d = (syms[(⟨k, hk'⟩ : Fin 11)]).2) := by
        have h5 := sym_at ⟨k, hk'⟩
        rw [HK.out] at h5
        exact ⟨_, _, h5.1, h5.2.1, h5.2.2.1, ⟨h5.2.2.2⟩, ⟨rfl, rfl⟩⟩
      cases hb : (bt s p == (c.toNat : Int) && bt s (p + 1) == (d.toNat : Int)) with
      | true =>
        have hres : Aside0 (R = some (.other, p + 2)) := ⟨by
          rw [← HR.out]
          unfold signR
          rw [sym_any, if_pos (List.any_eq_true.2 ⟨syms[(⟨k, hk'⟩ : Fin 11)], List.getElem_mem _, by rw [← hbb.out.1, ← hbb.out.2]; exact hb⟩)]⟩
        go_wp2_with (first | (go_at_call 15; (with_reducible refine (starts2_c s c d _ _ p _ rfl rfl hc hdd h0 (by omega) hs).mono ?_); rintro e w' ⟨rfl, hw'⟩; obtain rfl := hw'.symm))
        (try simp only [Exit.inBlock, Exit.then]); refine bodyPost_ret (results_tmp2 rfl _ _ _) rfl ?_
        rw [hres.out]
        exact ⟨rfl, (Ups.refl g _).set 0 _, _, _, _, by rw [show (⟨#[c, d]⟩ : ByteArray).toList = [c, d] from ByteArray.toList_mk [c, d]]; exact hkd.out, hY.set0 _⟩
      | false =>
        have HB := Aside0.mk hb
        go_wp2_with (first | (go_at_call 15; (with_reducible refine (starts2_c s c d _ _ p _ rfl rfl hc hdd h0 (by omega) hs).mono ?_); rintro e w' ⟨rfl, hw'⟩; obtain rfl := hw'.symm))
        go_roundg (11 - k)
        case measure => have := HA.out.2.2; omega
        case rel => exact ⟨k + 1, by congr 1 <;> omega, ⟨by omega, fun j hj => by
          by_cases hjk : (j : Nat) = k
          · obtain rfl : j = ⟨k, hk'⟩ := Fin.ext hjk
            have h5 := HB.out
            rw [hbb.out.1, hbb.out.2] at h5
            exact h5
          · exact HA.out.2.1 j (by omega), by omega⟩, rfl⟩
    · have hd : decide (2 * (k : Int) < 22) = false := decide_eq_false (by omega)
      have hno : Aside0 (isSign2 (bt s p) (bt s (p + 1)) = false) := ⟨by
        rw [sym_any, List.any_eq_false]
        intro q hq
        obtain ⟨j, hj, rfl⟩ := List.getElem_of_mem hq
        have := HA.out.2.1 ⟨j, hj⟩ (by show j < k; have : j < 11 := hj; omega)
        intro h
        exact absurd (this.symm.trans h) (by decide)⟩
      have hx := bt_at s p
      go_wp2
      go_loopg [9] 27 (fun kq v9 wq => ∃ j : Nat, v9 = .int .i64 (j : Int) ∧ Aside0 (j ≤ 26 ∧ (∀ i : Fin 26, (i : Nat) < j → bt L (i : Int) ≠ bt s p) ∧ 26 - j < kq) ∧ Drawn0 wr wq)
      case atStart => exact ⟨0, rfl, ⟨by omega, fun i h => by omega, by omega⟩, Drawn0.refl _⟩
      case round =>
        obtain ⟨j, rfl, HB, ⟨m, rfl⟩⟩ := hrel
        have j26 := HB.out.1
        have w4 := iwrap ((j : Int) + 1) (by omega) (by omega)
        by_cases hj : (j : Int) < 26
        · have hd2 : decide ((j : Int) < 26) = true := decide_eq_true hj
          have c0 : (0 : Int) ≤ (j : Int) := by omega
          have c1 : (j : Int) ≤ (j : Int) + 1 := by omega
          have c2 : (j : Int) + 1 ≤ (L.size : Int) := by omega
          have c3 : (0 : Int) ≤ (j : Int) + 1 := by omega
          have hx2 : ∀ h : j < L.size, ((L[j]'h).toNat : Int) = bt L (j : Int) := fun h => by simpa using bt_at L (j : Int) (by simpa using h)
          have hj' : j < 26 := by omega
          cases hb : (bt L (j : Int) == bt s p) with
          | true =>
            have hres : Aside0 (R = some (sgn (bt s p), p + 1)) := ⟨by
              have h5 := (sign_one ⟨j, hj'⟩).2
              rw [HL.out] at h5
              rw [← HR.out]
              unfold signR
              rw [hno.out, if_neg (by decide), if_pos (by rw [← beq_iff_eq.1 hb]; exact h5)]⟩
            have hkd : Aside0 (kd (L.extract j (j + 1)).toList = sgn (bt s p)) := ⟨by
              have h5 := (sign_one ⟨j, hj'⟩).1
              rw [HL.out] at h5
              rw [← beq_iff_eq.1 hb, ← h5]
              rfl⟩
            go_wp2
            go_quiet (fail)
            go_wp2
            (try simp only [Exit.inBlock, Exit.then]); refine bodyPost_ret (results_tmp2 rfl _ _ _) rfl ?_
            rw [hres.out]
            exact ⟨rfl, ((Ups.refl g _).drewN _).set 0 _, _, _, _, hkd.out, (hY.drewN _).set0 _⟩
          | false =>
            have HBB := Aside0.mk (ne_of_beq_false hb)
            go_wp2
            go_quiet (fail)
            go_wp2
            go_roundg (26 - j)
            case measure => have := HB.out.2.2; omega
            case rel => exact ⟨j + 1, by congr 1, ⟨by omega, fun i hi => by
              by_cases hij : (i : Nat) = j
              · rw [hij]
                exact HBB.out
              · exact HB.out.2.1 i (by omega), by omega⟩, by repeat (first | exact Drawn0.refl _ | apply Drawn0.step)⟩
        · have hd2 : decide ((j : Int) < 26) = false := decide_eq_false hj
          have hres : Aside0 (R = none) := ⟨by
            rw [← HR.out]
            unfold signR
            rw [hno.out, if_neg (by decide), if_neg]
            intro h5
            obtain ⟨i, hi⟩ := sign_all _ (List.contains_iff_mem.1 h5)
            exact HB.out.2.1 i (by omega) (by rw [← HL.out]; exact hi)⟩
          go_wp2
          (try simp only [Exit.inBlock, Exit.then]); refine bodyPost_ret (results_tmp2 rfl _ _ _) rfl ?_
          rw [hres.out]
          exact ⟨⟨_, rfl⟩, (Ups.refl g _).drewN _, _, _, _, hY.drewN _⟩
end Go.Proofs.YtjepdlmcombmcaaGreatDoor.Lx
