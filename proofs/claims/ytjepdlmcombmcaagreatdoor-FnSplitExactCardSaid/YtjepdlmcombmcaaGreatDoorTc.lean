/- For every string the law FnSplitExact returns true, and the string reads afterwards as it read before. Conditions: those of the given card alone: the listed package variables begin as the program's text lays them (the given tie shows it of the pruned copy of the repository). -/
import Derived.Test.YtjepdlmcombmcaaGreatDoorTb
namespace Go.Proofs.YtjepdlmcombmcaaGreatDoor.fnSplitExact
open Go.ChangeShapes Go.WideShapes Go.ChangeAt Go.RowKit

set_option maxRecDepth 100000 in
theorem lifted (os : Os) (started : os.Started) (H : Type) (enc : TypeId × Value → H) (F : Stop.Interp) :
    ReturnsInHanded {} Tryz.checked os 3 .any ((OpenSpec.ofChange Rows.fnSplitExactSpec).preRow enc Tryz.prog Tryz.f3 Rows.fnSplitExactRow.domain false Rows.fnSplitExactRow.laid) (((OpenSpec.ofChange Rows.fnSplitExactSpec).at F).post enc Tryz.prog Tryz.f3 false true false false) := by
  obtain ⟨places, hx⟩ := reads os enc
  refine returnsInHanded_of_row (C := Tryz.checked) (s := OpenSpec.ofChange Rows.fnSplitExactSpec) own started (by kernel_rfl) Tryz.func3
    ⟨(World.doorLaid Tryz.prog 117 os).layVars Tryz.prog [("unicode/utf8.first", Rows.laid_unicode_utf8_first)], fun _ _ => 0, ⟨#[], #[.string ⟨#[]⟩], []⟩, laidWorld_os os, shaped os, rfl, (Input.okWide_of_okWideB (okw os)).2,
      OpenSpec.preRow_of_cond 8 hx (by kernel_rfl) (fun k hk => by cases hk) (by kernel_rfl) (laid_met os), by
        simp only [Assume.holds]
        exact ⟨by simp, by simp, fun h => (by cases h), by simp, by simp⟩⟩ ?_
  intro W base args ds gs before hval hW _ _ _ hl _ _
  exact contract H enc W base args ds gs before hval hW hl

theorem said : Rows.FnSplitExactSaid :=
  OpenClaim.holds_of_cond 3 Tryz.f3 rfl rfl rfl rfl rfl rfl rfl ⟨rfl, rfl, rfl, rfl, rfl⟩ rfl rfl rfl rfl rfl (by kernel_rfl) Tryz.func3 (by kernel_rfl)
    (of_decide_eq_true (by kernel_rfl)) (by unfold Func.isWrapper; first | (rw [if_pos (by decide +kernel)]; kernel_rfl) | (rw [if_neg (by decide +kernel)]; exact ⟨rfl, rfl⟩))
    (fun os started H enc _ F => by rw [OpenClaim.pre_eq_preRow]; exact lifted os started H enc F)

/-- No parameter wants a stand-in; the program's own looks are off. -/
theorem plain (f : FuncId) (fn : Func) (hf : Tryz.pinned.checked.prog.funcNamed "pub-dabber/laws.FnSplitExact" = some f) (hfn : Tryz.pinned.checked.prog.funcs[f]? = some fn) :
    true = Tryz.pinned.checked.prog.looks [] ∧ ∀ (j : Nat) t, fn.params[j]? = some t → Tryz.pinned.checked.prog.wantsStandIn t = false := by
  obtain rfl : f = 3 := Option.some.inj ((show Tryz.prog.funcNamed "pub-dabber/laws.FnSplitExact" = some 3 by kernel_rfl).symm.trans hf) |>.symm
  obtain rfl : fn = Tryz.f3 := (Option.some.inj (Tryz.func3.symm.trans hfn)).symm
  refine ⟨by kernel_rfl, fun j t ht => ?_⟩
  rw [Tryz.params3] at ht
  have hm : t ∈ [9] := by simpa using Array.mem_of_getElem? ht
  have hall : ([9].all fun u => !Tryz.prog.wantsStandIn u) = true := by kernel_rfl
  exact (show Tryz.prog.wantsStandIn t = false by simpa using List.all_eq_true.1 hall t hm)

/-- THE CARD. -/
theorem card : Rows.FnSplitExactCardSaid :=
  Claim7.holds_tied_plain_at .later [] _ _ _ _ said (fun _ h => by cases h) (by kernel_rfl) (fun _ h => by cases h) fnSplitExact_row_tie rfl ⟨rfl, rfl⟩ (by kernel_rfl) rfl plain (by kernel_rfl)
end Go.Proofs.YtjepdlmcombmcaaGreatDoor.fnSplitExact
