/- The parser's type at a simple type: the guarded call. Conditions: as at the simple type's. -/
import Derived.Test.YtjepdlmcombmcaaGreatDoorLs
namespace Go.Proofs.YtjepdlmcombmcaaGreatDoor.Lx
open Go.RowKit Go.Proofs.YtjepdlmcombmcaaGreatDoorW.PrintWords

set_option maxRecDepth 100000 in
set_option maxHeartbeats 1000000 in
theorem type_c (pb b fb : Nat) (x : St) (w : World) (s : ByteArray) (u : ByteArray) (j : Int) (p q : Int) (k t : ByteArray) (hP : IsP w pb b) (hL : IsL w b fb x) (hF : IsF w fb s) (hx : TokSt IDENT u p x) (hS : Step s p k t q) (h1 : (u.size : Int) ≤ 1000000) (hj : FirstTy u j) :
    Calls Tryz.prog 67 #[.pointer (some ⟨pb, 0, none⟩)] w (Simpled b fb (nmOf j) k t q (fun r => .iface 107 (.pointer (some ⟨r, 0, none⟩))) w) := by
  have hne := hF.ne hL
  have hpb := hP.ne hL
  have hmf : ∀ (fn : Fn) (first cap : Array Value) (w : World), (Instr.makeFunc fn first cap).run Tryz.prog w = .ok (.func fn first cap) w := fun _ _ _ _ => rfl
  have hb0 := below_alloc (below_alloc (Below.refl w.heap.size w) (.cells #[.pointer (some ⟨pb, 0, none⟩)] 104)) (.cells #[.nilIface] 79)
  have hL0 := hL.below hb0
  have hP0 : IsP _ pb b := blk_below hP hb0
  have hF0 : IsF _ fb s := hF.ups ((Ups.refl b w).below hb0) hne
  have hbx := hL.lt
  have HX := Aside0.mk hx
  have HS := Aside0.mk hS
  have HJ := Aside0.mk hj
  clear hx hS hj
  have B1 := blk_alloc (blk_new w (.cells #[.pointer (some ⟨pb, 0, none⟩)] 104)) (.cells #[.nilIface] 79)
  have B2 := blk_new (w.alloc (.cells #[.pointer (some ⟨pb, 0, none⟩)] 104)) (.cells #[.nilIface] 79)
  have z1 : (w.alloc (.cells #[.pointer (some ⟨pb, 0, none⟩)] 104)).heap.size = w.heap.size + 1 := by simp [go_sem]
  have z2 : ((w.alloc (.cells #[.pointer (some ⟨pb, 0, none⟩)] 104)).alloc (.cells #[.nilIface] 79)).heap.size = w.heap.size + 2 := by simp [go_sem]
  rw [z1] at B2
  go_enter_defers Tryz.func67, Tryz.ntmps67
  go_wp2_with (first
    | (go_at_call 62; (with_reducible refine (cloneLexer_c pb b fb x _ hP0 hL0 HX.out.com).mono ?_); rintro e w1 ⟨rfl, hb1⟩;
       have hbA := below_alloc hb1 (.cells #[.pointer (some ⟨w.heap.size + 1 + 1, 0, none⟩)] 53);
       have C1 := blk_below B1 hbA; have C2 := blk_below B2 hbA;
       have A1 := (blk_cell C1 0).trans rfl; have hLA := hL0.below hbA; have hPA : IsP _ pb b := blk_below hP0 hbA; have hFA := hF0.ups ((Ups.refl b _).below hbA) hne;
       have P0 := hPA.lex;
       have L1 : (w1.alloc (.cells #[.pointer (some ⟨w.heap.size + 1 + 1, 0, none⟩)] 53)).cell? ⟨b, 1, none⟩ = some (.string IDENT) := (by rw [← HX.out.kind]; exact hLA.c1))
    | (go_at_call 99; (with_reducible refine (lookahead_c pb b fb x j _ hPA hLA HX.out.kind HX.out.com (by rw [HX.out.txt]; exact h1) (by rw [HX.out.txt]; exact HJ.out)).mono ?_); rintro e w2 ⟨rfl, hb2⟩;
       have D1 := blk_below C1 hb2; have D2 := blk_below C2 hb2; have hLB := hLA.below hb2; have hPB : IsP _ pb b := blk_below hPA hb2; have hFB := hFA.ups ((Ups.refl b _).below hb2) hne; have A2 := (blk_cell D1 0).trans rfl)
    | (go_at_call 101; (with_reducible refine (simple_c pb b fb x _ s u j p q k t hPB hLB hFB HX.out HS.out h1 HJ.out).mono ?_); rintro e w3 ⟨r, rfl, hr, hrs, hU3, hR, y, hy, hLy⟩;
       have E2 := hU3.obj D2 (by omega); have A3 := (blk_cell E2 0).trans rfl; have A4 := blk_frozen E2 0))
  refine leaves_cons (f := 98) (args := #[.pointer (some ⟨w.heap.size, 0, none⟩), .pointer (some ⟨w1.heap.size, 0, none⟩), .pointer (some ⟨w.heap.size + 1, 0, none⟩)]) (by simp) (by simp [go_sem]) ?_
  refine (idle98 _ _ _ _).mono ?_
  rintro e u' w'' ⟨rfl, rfl, rfl⟩
  have F2 := blk_set E2 0 (.iface 107 (.pointer (some ⟨r, 0, none⟩)))
  have F3 : (w3.setCell ⟨w.heap.size + 1, 0, none⟩ (.iface 107 (.pointer (some ⟨r, 0, none⟩)))).cell? ⟨w.heap.size + 1, 0, none⟩ = some (.iface 107 (.pointer (some ⟨r, 0, none⟩))) := (blk_cell F2 0).trans rfl
  simp [Leaves, settle, results, Tryz.results67, go_sem, F3]
  have U := ((((Ups.refl b w).below hb0).below hbA).below hb2).trans hU3
  have d2 := blk_lt D2
  obtain ⟨tp, hR⟩ := hR
  exact ⟨r, rfl, by omega, by simpa [World.setCell] using hrs, U.setCell (.inr (by show w.heap.size ≤ w.heap.size + 1; omega)) _, ⟨tp, blk_far hR (by show r ≠ w.heap.size + 1; omega) _⟩, y, hy, blk_far hLy (by show b ≠ w.heap.size + 1; omega) _⟩
end Go.Proofs.YtjepdlmcombmcaaGreatDoor.Lx
