/- The parser's type at an array of a simple type. Conditions: the four next tokens' steps. -/
import Derived.Test.YtjepdlmcombmcaaGreatDoorLt
namespace Go.Proofs.YtjepdlmcombmcaaGreatDoor.Lx
open Go.RowKit Go.Proofs.YtjepdlmcombmcaaGreatDoorW.PrintWords

/-- Block r holds the array type whose item is the simple type of the name nm. -/
def ArrayOf (w : World) (r : Nat) (nm : ByteArray) : Prop :=
  ∃ (a g : Int) (r1 : Nat), w.heap[r]? = some (.cells #[.int .i64 a, .int .i64 g, .iface 107 (.pointer (some ⟨r1, 0, none⟩))] 113 (0, 0)) ∧ Simple w r1 nm
abbrev ARRAY : ByteArray := ⟨#[65, 82, 82, 65, 89]⟩
abbrev LT : ByteArray := ⟨#[60]⟩
abbrev GT : ByteArray := ⟨#[62]⟩
/-- What the parser leaves behind an array type. -/
def Arrayed (b fb : Nat) (nm : ByteArray) (k t : ByteArray) (q : Int) (v : Nat → Value) (w : World) (e : Ending) (w' : World) : Prop :=
  ∃ r, e = .returned (v r) ∧ w.heap.size ≤ r ∧ r < w'.heap.size ∧ Ups b w w' ∧ ArrayOf w' r nm ∧ ∃ y, TokSt k t q y ∧ IsL w' b fb y

set_option maxRecDepth 100000 in
set_option maxHeartbeats 1000000 in
theorem array_c (pb b fb : Nat) (x : St) (w : World) (s : ByteArray) (t0 t1 t3 u : ByteArray) (j : Int) (p0 p1 p2 p3 q : Int) (k t : ByteArray) (hP : IsP w pb b) (hL : IsL w b fb x) (hF : IsF w fb s) (hx : TokSt ARRAY t0 p0 x)
    (hS0 : Step s p0 LT t1 p1) (hS1 : Step s p1 IDENT u p2) (hS2 : Step s p2 GT t3 p3) (hS3 : Step s p3 k t q) (h1 : (u.size : Int) ≤ 1000000) (hj : FirstTy u j) :
    Calls Tryz.prog 102 #[.pointer (some ⟨pb, 0, none⟩)] w (Arrayed b fb (nmOf j) k t q (fun r => .pointer (some ⟨r, 0, none⟩)) w) := by
  have hne := hF.ne hL
  have hpb := hP.ne hL
  have HX := Aside0.mk hx
  have HS0 := Aside0.mk hS0
  have HS1 := Aside0.mk hS1
  have HS2 := Aside0.mk hS2
  have HS3 := Aside0.mk hS3
  have HJ := Aside0.mk hj
  clear hx hS0 hS1 hS2 hS3 hj
  go_enter Tryz.func102, Tryz.ntmps102
  go_wp2_with (first
    | (go_at_call 119; (with_reducible refine (expect_c pb b fb x _ s ARRAY t0 p0 p1 LT t1 hP hL hF HX.out HS0.out).mono ?_); rintro e w1 ⟨g1, rfl, hg1, hU1, hC1, y1, hy1, hL1⟩;
       have HY1 := Aside0.mk hy1; have hP1 := hP.ups hU1 hpb; have hF1 := hF.ups hU1 hne; have c16 := hC1.c6; clear hy1)
    | (go_at_call 119; (with_reducible refine (expect_c pb b fb _ _ s LT t1 p1 p2 IDENT u hP1 hL1 hF1 HY1.out HS1.out).mono ?_); rintro e w2 ⟨g2, rfl, hg2, hU2, hC2, y2, hy2, hL2⟩;
       have HY2 := Aside0.mk hy2; have hP2 := hP1.ups hU2 hpb; have hF2 := hF1.ups hU2 hne; clear hy2)
    | (go_at_call 67; (with_reducible refine (type_c pb b fb _ _ s u j p2 p3 GT t3 hP2 hL2 hF2 HY2.out HS2.out h1 HJ.out).mono ?_); rintro e w3 ⟨r, rfl, hr, hrs, hU3, hR, y3, hy3, hL3⟩;
       have HY3 := Aside0.mk hy3; have hP3 := hP2.ups hU3 hpb; have hF3 := hF2.ups hU3 hne; have P3 := hP3.lex; have k3 : w3.cell? ⟨b, 1, none⟩ = some (.string GT) := (by rw [← hy3.kind]; exact hL3.c1); clear hy3)
    | (go_at_call 119; (with_reducible refine (expect_c pb b fb _ _ s GT t3 p3 q k t hP3 hL3 hF3 HY3.out HS3.out).mono ?_); rintro e w4 ⟨g4, rfl, hg4, hU4, hC4, y4, hy4, hL4⟩; have c46 := hC4.c6))
  go_ret
  have e1 := hU1.size
  have e2 := hU2.size
  have e3 := hU3.size
  have e4 := hU4.size
  have hb := hL.lt
  have hbel := fun o => below_alloc (Below.refl w4.heap.size w4) o
  obtain ⟨tp, hR⟩ := hR.ups hU4 (by omega)
  refine ⟨w4.heap.size, rfl, by omega, by simp [go_sem], ((((hU1.trans hU2).trans hU3).trans hU4).below (hbel _)), ⟨_, _, r, blk_new _ _, tp, blk_alloc hR _⟩, y4, hy4, hL4.below (hbel _)⟩
set_option maxRecDepth 100000 in
set_option maxHeartbeats 1000000 in
theorem typeA_c (pb b fb : Nat) (x : St) (w : World) (s : ByteArray) (t0 t1 t3 u : ByteArray) (j : Int) (p0 p1 p2 p3 q : Int) (k t : ByteArray) (hP : IsP w pb b) (hL : IsL w b fb x) (hF : IsF w fb s) (hx : TokSt ARRAY t0 p0 x)
    (hS0 : Step s p0 LT t1 p1) (hS1 : Step s p1 IDENT u p2) (hS2 : Step s p2 GT t3 p3) (hS3 : Step s p3 k t q) (h1 : (u.size : Int) ≤ 1000000) (hj : FirstTy u j) :
    Calls Tryz.prog 67 #[.pointer (some ⟨pb, 0, none⟩)] w (Arrayed b fb (nmOf j) k t q (fun r => .iface 111 (.pointer (some ⟨r, 0, none⟩))) w) := by
  have hne := hF.ne hL
  have hpb := hP.ne hL
  have hmf : ∀ (fn : Fn) (first cap : Array Value) (w : World), (Instr.makeFunc fn first cap).run Tryz.prog w = .ok (.func fn first cap) w := fun _ _ _ _ => rfl
  have hb0 := below_alloc (below_alloc (Below.refl w.heap.size w) (.cells #[.pointer (some ⟨pb, 0, none⟩)] 104)) (.cells #[.nilIface] 79)
  have hL0 := hL.below hb0
  have hP0 : IsP _ pb b := blk_below hP hb0
  have hF0 : IsF _ fb s := hF.ups ((Ups.refl b w).below hb0) hne
  have hbx := hL.lt
  have HX := Aside0.mk hx
  have HS0 := Aside0.mk hS0
  have HS1 := Aside0.mk hS1
  have HS2 := Aside0.mk hS2
  have HS3 := Aside0.mk hS3
  have HJ := Aside0.mk hj
  clear hx hS0 hS1 hS2 hS3 hj
  have B1 := blk_alloc (blk_new w (.cells #[.pointer (some ⟨pb, 0, none⟩)] 104)) (.cells #[.nilIface] 79)
  have B2 := blk_new (w.alloc (.cells #[.pointer (some ⟨pb, 0, none⟩)] 104)) (.cells #[.nilIface] 79)
  have z1 : (w.alloc (.cells #[.pointer (some ⟨pb, 0, none⟩)] 104)).heap.size = w.heap.size + 1 := by simp [go_sem]
  have z2 : ((w.alloc (.cells #[.pointer (some ⟨pb, 0, none⟩)] 104)).alloc (.cells #[.nilIface] 79)).heap.size = w.heap.size + 2 := by simp [go_sem]
  rw [z1] at B2
  go_enter_defers Tryz.func67, Tryz.ntmps67
  go_wp2_with (first
    | (go_at_call 62; (with_reducible refine (cloneLexer_c pb b fb x _ hP0 hL0 HX.out.com).mono ?_); rintro e w1 ⟨rfl, hb1⟩;
       have hbA := below_alloc hb1 (.cells #[.pointer (some ⟨w.heap.size + 1 + 1, 0, none⟩)] 53);
       have C1 := blk_below B1 hbA; have C2 := blk_below B2 hbA;
       have A1 := (blk_cell C1 0).trans rfl; have hLA := hL0.below hbA; have hPA : IsP _ pb b := blk_below hP0 hbA; have hFA := hF0.ups ((Ups.refl b _).below hbA) hne;
       have P0 := hPA.lex;
       have L1 : (w1.alloc (.cells #[.pointer (some ⟨w.heap.size + 1 + 1, 0, none⟩)] 53)).cell? ⟨b, 1, none⟩ = some (.string ARRAY) := (by rw [← HX.out.kind]; exact hLA.c1))
    | (go_at_call 102; (with_reducible refine (array_c pb b fb x _ s t0 t1 t3 u j p0 p1 p2 p3 q k t hPA hLA hFA HX.out HS0.out HS1.out HS2.out HS3.out h1 HJ.out).mono ?_); rintro e w3 ⟨r, rfl, hr, hrs, hU3, hR, y, hy, hLy⟩;
       have E2 := hU3.obj C2 (by omega); have A3 := (blk_cell E2 0).trans rfl; have A4 := blk_frozen E2 0))
  refine leaves_cons (f := 98) (args := #[.pointer (some ⟨w.heap.size, 0, none⟩), .pointer (some ⟨w1.heap.size, 0, none⟩), .pointer (some ⟨w.heap.size + 1, 0, none⟩)]) (by simp) (by simp [go_sem]) ?_
  refine (idle98 _ _ _ _).mono ?_
  rintro e u' w'' ⟨rfl, rfl, rfl⟩
  have F2 := blk_set E2 0 (.iface 111 (.pointer (some ⟨r, 0, none⟩)))
  have F3 : (w3.setCell ⟨w.heap.size + 1, 0, none⟩ (.iface 111 (.pointer (some ⟨r, 0, none⟩)))).cell? ⟨w.heap.size + 1, 0, none⟩ = some (.iface 111 (.pointer (some ⟨r, 0, none⟩))) := (blk_cell F2 0).trans rfl
  simp [Leaves, settle, results, Tryz.results67, go_sem, F3]
  have U := (((Ups.refl b w).below hb0).below hbA).trans hU3
  have d2 := blk_lt C2
  obtain ⟨a, g, r1, hR, tp, hR1⟩ := hR
  exact ⟨r, rfl, by omega, by simpa [World.setCell] using hrs, U.setCell (.inr (by show w.heap.size ≤ w.heap.size + 1; omega)) _, ⟨a, g, r1, blk_far hR (by show r ≠ w.heap.size + 1; omega) _, tp, blk_far hR1 (blk_ne hR1 E2 (by decide)) _⟩, y, hy, blk_far hLy (by show b ≠ w.heap.size + 1; omega) _⟩
end Go.Proofs.YtjepdlmcombmcaaGreatDoor.Lx
