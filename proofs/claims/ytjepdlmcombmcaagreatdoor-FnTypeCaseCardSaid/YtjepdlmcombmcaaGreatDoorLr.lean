/- The two deferred closures of the parser, entered as deferred calls of frames that return: recover finds nothing. Conditions: the cells that they capture lie. -/
import Derived.Test.YtjepdlmcombmcaaGreatDoorLq
import Derived.Defers
import Derived.Recover
namespace Go.Proofs.YtjepdlmcombmcaaGreatDoor.Lx
open Go.RowKit Go.Proofs.YtjepdlmcombmcaaGreatDoorW.PrintWords

theorem idle98 (a1 a2 a3 : Value) (w : World) :
    CallsD Tryz.prog 98 #[a1, a2, a3] .returning w fun e u' w' => e = .returned (.tuple #[]) ∧ u' = .returning ∧ w' = w := by
  refine callsD_of_wpS Tryz.func98 rfl fun c₀ cs hu => ?_
  apply wpS_seq
  apply wpS_region
  simp [wpOpsS, go_sem, recoverD, hu, Tryz.ntmps98, Exit.thenS]
  apply wpS_seq
  apply wpS_region
  simp [wpOpsS, go_sem, Exit.thenS]
  refine wpS_cond (t := false) (by simp [Act.eval, Array.replicate]) ?_
  simp only [Bool.false_eq_true, if_false]
  refine wpS_of_wp (wp_skip ?_)
  cases c₀
  simp_all [bodyPostS, results, Tryz.results98]

theorem collectError_c (pb b : Nat) (w : World) (hP : IsP w pb b) :
    Calls Tryz.prog 65 #[.pointer (some ⟨pb, 0, none⟩)] w fun e w' => e = .returned .nilIface ∧ w' = w := by
  have P1 := hP.errs
  go_enter Tryz.func65, Tryz.ntmps65
  go_wp2
  go_ret
  exact ⟨rfl, rfl⟩

theorem idle63 (bx er pb b : Nat) (a2 a3 : Value) (w : World) (hB : w.cell? ⟨bx, 0, none⟩ = some (.pointer (some ⟨pb, 0, none⟩))) (hE : w.cell? ⟨er, 0, none⟩ = some .nilIface) (hz : w.frozen? ⟨er, 0, none⟩ = false) (hP : IsP w pb b) :
    CallsD Tryz.prog 63 #[.pointer (some ⟨bx, 0, none⟩), a2, a3, .pointer (some ⟨er, 0, none⟩)] .returning w fun e u' w' => e = .returned (.tuple #[]) ∧ u' = .returning ∧ w' = w.setCell ⟨er, 0, none⟩ .nilIface := by
  refine callsD_of_wpS Tryz.func63 rfl fun c₀ cs hu => ?_
  apply wpS_seq
  apply wpS_seq
  apply wpS_region
  simp [wpOpsS, go_sem, recoverD, hu, Tryz.ntmps63, Exit.thenS]
  apply wpS_seq
  apply wpS_region
  simp [wpOpsS, go_sem, Exit.thenS]
  refine wpS_cond (t := false) (by simp [Act.eval, Array.replicate]) ?_
  simp only [Bool.false_eq_true, if_false]
  refine wpS_of_wp (wp_skip ?_)
  refine wpS_of_wp ?_
  go_wp2_with (first | (go_at_call 65; (with_reducible refine (collectError_c pb b _ hP).mono ?_); rintro e w' ⟨rfl, rfl⟩))
  cases c₀
  simp_all [bodyPostS, results, Tryz.results63]
end Go.Proofs.YtjepdlmcombmcaaGreatDoor.Lx
