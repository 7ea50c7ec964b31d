/- The law FnSplitExact: its row, for every string, and a world in which the row's premises hold. Condition: the listed variables are laid. -/
import Derived.Test.YtjepdlmcombmcaaGreatDoorCards
import Derived.Test.YtjepdlmcombmcaaGreatDoorTie
import Derived.Test.YtjepdlmcombmcaaGreatDoorTa
import Derived.WalkKit
import Derived.ProofKit
import Derived.OpenShut
import Derived.Deep.DeepHandedRow
import Derived.Lay
import Derived.LaidMore
import Derived.Lib.LaidTab
namespace Go.Proofs.YtjepdlmcombmcaaGreatDoor.fnSplitExact
open Go.ChangeShapes Go.WideShapes Go.ChangeAt Go.RowKit
open Go.ChangeMaps (open_string shut_string)

theorem walk (s : ByteArray) (w : World) (hPow : Lx.Pow10 w) : Calls Tryz.prog 3 #[.string s] w fun e w' => e = .returned (.bool true) ∧ Below w.heap.size w w' := by
  by_cases h1 : 2147483647 < (s.size : Int)
  · exact Lx.split_triv s w (.inl h1)
  · have h1' : (2147483647 < (s.size : Int)) = False := eq_false h1
    by_cases h2 : (s.size : Int) ≤ 16384
    · cases hb : Lx.brit s with
      | true => exact Lx.split_triv s w (.inr ⟨h1', .inr ⟨h2, hb⟩⟩)
      | false => exact Lx.split_main s w hPow h2 hb
    · exact Lx.split_triv s w (.inr ⟨h1', .inl (by omega)⟩)
theorem own : ownKnob Tryz.prog.godebug = none := by kernel_rfl
/-- The row's list gives the table of powers. -/
theorem pow10_of_laid {W : World} (h : laidMetH Tryz.prog Rows.fnSplitExactRow.laid W) : Lx.Pow10 W := by
  have hp : laidMet Tryz.prog _ W := (show laidMet Tryz.prog _ W ∧ handlesMet Tryz.prog _ W from h).1
  obtain ⟨ps, ⟨g1, t1, cs1, f1, p1, q1, _, _, _, _, L1, _⟩, _⟩ := hp
  obtain ⟨g2, t2, cs2, f2, p2, q2, _, _, _, _, L2, _⟩ := L1
  obtain ⟨g3, t3, cs3, f3, p3, q3, hg3, ht3, hv3, hd3, _, _⟩ := L2
  obtain rfl := Option.some.inj ((show Tryz.prog.globalNamed "internal/strconv.uint64pow10" = some 8 by kernel_rfl).symm.trans hg3)
  obtain rfl := Option.some.inj ((show (Tryz.prog.globals[8]?).map (·.type) = some 285 by kernel_rfl).symm.trans ht3)
  unfold Lx.Pow10 Lib.TabIs
  rw [hv3, ← Lib.cells_of_tab (t := 285) (e := 30) (n := 20) (k := .u64) (zs := Lib.pow10Tab) (by kernel_rfl) (by kernel_rfl) (by kernel_rfl) (by kernel_rfl) hd3]
/-- What a row's return asks, from a world that is as it was below the call's own blocks. -/
theorem post_of_below {H : Type} {enc : TypeId × Value → H} {P : Program} {f : Func} {s : ChangeSpec} {apart fresh handsOn again : Bool} {W W' : World} {args : Array Value} {v : Value} {ds gs : List (DataW H)} {before pa pv : List MemPlace}
    (hW : DataW.Whole enc P f.params.toList s.vars apart W args.toList ds gs before)
    (hres : ∀ (b : Nat) (sp : Nat → Bool) (hd : Bool), DataW.TrodAll enc P W' b sp hd f.resultTypes.toList (v.resultList f.resultTypes.size) (s.fn H (ds ++ gs)).results [])
    (hargs : ∀ sp : Nat → Bool, (∀ p ∈ before, sp p.block = true) → DataW.TrodAll enc P W' 0 sp true f.params.toList args.toList (s.fn H (ds ++ gs)).args pa)
    (hvars : ∀ sp : Nat → Bool, (∀ p ∈ before, sp p.block = true) → DataW.TrodVars enc P W' sp s.vars (s.fn H (ds ++ gs)).vars pv)
    (hps : before = pa ++ pv) (hb : Below W.heap.size W W')
    (hok : ∀ (j : Nat) (t : TypeId) (r : Value), f.resultTypes[j]? = some t → (v.resultList f.resultTypes.size)[j]? = some r → Value.okWide P W' .any 0 t r) :
    s.post enc P f apart fresh handsOn again W args v W' := by
  have hlt := hW.lt
  have hold : ∀ p ∈ before, (fun b => decide (b < W.heap.size)) p.block = true := fun p hp => by simpa using hlt p hp
  refine ⟨ds, gs, before, [], pa, pv, hW, hres _ _ _, hargs _ hold, hvars _ hold, hb.frame _, fun _ => ?_⟩
  obtain ⟨_, _, _, _, _, hz, hn⟩ := hW
  refine ⟨hok, _, _, ([] ++ pa) ++ pv, ⟨[] ++ pa, pv, trodAll_append (hargs _ (fun _ _ => rfl)) (hres _ _ _), hvars _ (fun _ _ => rfl), rfl, ?_, ?_⟩, ?_⟩
  · intro b off hp
    have hp' : MemPlace.cell b off ∈ before := by rw [hps]; simpa using hp
    rw [hb.frozen (hlt _ hp')]
    exact hz b off hp'
  · intro ha
    have := hn ha
    rw [hps] at this
    simpa using this
  · intro p hp _
    rw [hps]
    simpa using hp

set_option maxRecDepth 100000 in
/-- What the walk gives, for every argument. -/
theorem contract (H : Type) (enc : TypeId × Value → H) (W : World) (base : Nat) (args : Array Value) (ds gs : List (DataW H)) (before : List MemPlace)
    (hval : ∀ (j : Nat) t v, Tryz.f3.params[j]? = some t → args[j]? = some v → Value.okWide Tryz.prog W .any base t v)
    (hW : DataW.Whole enc Tryz.prog Tryz.f3.params.toList Rows.fnSplitExactSpec.vars false W args.toList ds gs before) (hl : laidMetH Tryz.prog Rows.fnSplitExactRow.laid W) :
    Calls Tryz.prog 3 args W fun e W' => ∃ v, e = .returned v ∧ Rows.fnSplitExactSpec.post enc Tryz.prog Tryz.f3 false true false false W args v W' := by
  have hW' := hW
  obtain ⟨p, q, hA0, hV, rfl, hfz, hnd⟩ := hW
  have hA : DataW.TrodAll enc Tryz.prog W 0 (fun _ => true) true Tryz.f3.params.toList args.toList ds p := hA0
  rw [Tryz.params3] at hA hval
  obtain ⟨v0, vs0, d0, ds0, p0, q0, hargs, rfl, rfl, h0, r0⟩ := trodAll_cons hA
  obtain ⟨rfl, rfl, rfl⟩ := trodAll_nil r0
  obtain rfl : args = #[v0] := by cases args; simp_all
  obtain ⟨rfl, rfl⟩ := trodVars_none hV
  obtain ⟨s, rfl, rfl, rfl, w0⟩ := open_string Tryz.underlying9 (hval 0 9 v0 rfl rfl) h0
  clear hA0
  simp only [List.append_nil] at hW'
  refine (walk s W (pow10_of_laid hl)).mono fun e W' ⟨he, hb⟩ => ?_
  subst he
  exact ⟨_, rfl, post_of_below (pa := []) (pv := []) hW' (fun _ _ _ => trodAll_cons_mk (shut_bool Tryz.underlying4 _) trodAll_mk0) (fun _ _ => trodAll_cons_mk (shut_string Tryz.underlying9 w0) trodAll_mk0) (fun _ _ => rfl) rfl
    hb (ok_one (by kernel_rfl) rfl (okWide_bool_mk Tryz.underlying4 _))⟩
theorem laidWorld_os (os : Os) : ((World.doorLaid Tryz.prog 117 os).layVars Tryz.prog [("unicode/utf8.first", Rows.laid_unicode_utf8_first)]).os = os := World.layVars_os _ _ _
theorem laid_met (os : Os) : laidMetH Tryz.prog Rows.fnSplitExactRow.laid (((World.doorLaid Tryz.prog 117 os).layVars Tryz.prog [("unicode/utf8.first", Rows.laid_unicode_utf8_first)]).forCall (fun _ _ => 0) ⟨#[], #[.string ⟨#[]⟩], []⟩).memory :=
  laidMetH_of_parts3 (fuel := 8) (laidMet_of_run' 8 (by kernel_rfl) (by kernel_rfl)) (by kernel_rfl) (by kernel_rfl)
theorem shaped (os : Os) : (((World.doorLaid Tryz.prog 117 os).layVars Tryz.prog [("unicode/utf8.first", Rows.laid_unicode_utf8_first)]).forCall (fun _ _ => 0) ⟨#[], #[.string ⟨#[]⟩], []⟩).Shaped Tryz.prog := World.shaped_of_RefB (by kernel_rfl) (by kernel_rfl)
theorem reads (os : Os) {H : Type} (enc : TypeId × Value → H) : ∃ places, DataW.whole enc Tryz.prog (((World.doorLaid Tryz.prog 117 os).layVars Tryz.prog [("unicode/utf8.first", Rows.laid_unicode_utf8_first)]).forCall (fun _ _ => 0) ⟨#[], #[.string ⟨#[]⟩], []⟩).memory Tryz.f3.params.toList Rows.fnSplitExactSpec.vars false #[Value.string ⟨#[]⟩].toList 8 = some ([.lit (.string [])], [], places) :=
  ⟨[], by kernel_rfl⟩
theorem okw (os : Os) : Input.okWideB Tryz.prog (((World.doorLaid Tryz.prog 117 os).layVars Tryz.prog [("unicode/utf8.first", Rows.laid_unicode_utf8_first)]).forCall (fun _ _ => 0) ⟨#[], #[.string ⟨#[]⟩], []⟩) 3 ⟨#[], #[.string ⟨#[]⟩], []⟩ = true := by kernel_rfl
end Go.Proofs.YtjepdlmcombmcaaGreatDoor.fnSplitExact
