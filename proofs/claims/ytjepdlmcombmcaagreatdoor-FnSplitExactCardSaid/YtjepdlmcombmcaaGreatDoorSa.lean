/- lexes: a word is a token. No conditions. -/
import Derived.Test.YtjepdlmcombmcaaGreatDoorQh
import Derived.Test.YtjepdlmcombmcaaGreatDoorRi
import Derived.Test.YtjepdlmcombmcaaGreatDoorLh
namespace Go.Proofs.YtjepdlmcombmcaaGreatDoor.Lx
open Go.RowKit Go.Proofs.YtjepdlmcombmcaaGreatDoorW.PrintWords

theorem lexerOf_c (s : ByteArray) (w : World) : Calls Tryz.prog 22 #[.string s] w fun e w' => e = .returned (.pointer (some ⟨w.heap.size + 1, 0, none⟩)) ∧
    w' = (w.alloc (.cells #[.string ⟨#[]⟩, .string s, .slice none 0 0] 85)).alloc (.cells #[.pointer (some ⟨w.heap.size, 0, none⟩), .string ⟨#[]⟩, .slice none 0 0, .string ⟨#[]⟩, .string ⟨#[]⟩, .string ⟨#[]⟩, .int .i64 0, .int .i64 0, .int .i64 0, .int .i64 0, .string ⟨#[]⟩, .bool false] 67) := by
  go_enter Tryz.func22, Tryz.ntmps22
  go_wp2
  go_ret
  exact ⟨rfl, rfl⟩
/-- NextToken where nextToken comes back. -/
theorem next23_c (w : World) (b : Nat) (Q : World → Prop) (hb : b < w.heap.size)
    (h : Calls Tryz.prog 34 #[.pointer (some ⟨b, 0, none⟩), .bool false] (w.alloc (.cells #[.nilIface] 56)) fun e w1 => e = .returned (.tuple #[]) ∧ Ups b (w.alloc (.cells #[.nilIface] 56)) w1 ∧ Q w1) :
    Calls Tryz.prog 23 #[.pointer (some ⟨b, 0, none⟩)] w fun e w' => e = .returned .nilIface ∧ Ups b w w' ∧ Q w' := by
  have hmf : ∀ (fn : Fn) (first cap : Array Value) (w : World), (Instr.makeFunc fn first cap).run Tryz.prog w = .ok (.func fn first cap) w := fun _ _ _ _ => rfl
  have hU0 : Ups b w (w.alloc (.cells #[.nilIface] 56)) := (Ups.refl b w).alloc _
  have hE : (w.alloc (.cells #[.nilIface] 56)).heap[w.heap.size]? = some (.cells #[.nilIface] 56 (0, 0)) := blk_new w _
  have HH := Aside0.mk h
  clear h
  go_enter_defers Tryz.func23, Tryz.ntmps23
  go_wp2_with (first | (go_at_call 34; refine HH.out.mono ?_; rintro e w1 ⟨rfl, hU1, hq⟩))
  refine leaves_cons (f := 33) (args := #[.pointer (some ⟨w.heap.size, 0, none⟩)]) (by simp) (by simp [go_sem]) ?_
  refine (idle33 _ _).mono ?_
  rintro e u' w'' ⟨rfl, rfl, rfl⟩
  have F3 : w''.cell? ⟨w.heap.size, 0, none⟩ = some .nilIface := (blk_cell (hU1.obj hE (by omega)) 0).trans rfl
  simp [Leaves, settle, results, Tryz.results23, go_sem, F3]
  exact ⟨hU0.trans hU1, hq⟩
theorem results_c1 {fn : Func} {p : Tmp} {ty : TypeId} (h : fn.results = #[.cell p ty]) (tmps : Array Value) (w : World) (g : Nat) (v : Value)
    (hp : tmps.getD p undef = .pointer (some ⟨g, 0, none⟩)) (hl : (loadVar ty ⟨g, 0, none⟩).run Tryz.prog w = .ok v w) :
    (results fn tmps).run Tryz.prog w = .ok v w := by
  have hp' : tmps[p]?.getD undef = .pointer (some ⟨g, 0, none⟩) := by simpa using hp
  simp [results, h, hp', asAddr, hl]
set_option maxRecDepth 100000 in
set_option maxHeartbeats 4000000 in
theorem tokenOf_c (k sp raw txt : ByteArray) (bs p e : Int) (w : World) :
    Calls Tryz.prog 25 #[.agg #[.string k, .slice none 0 0, .string sp, .string raw, .string txt, .int .i64 bs, .int .i64 p, .int .i64 e]] w fun r w' => r = .returned (.agg #[.string k, .string sp, .string raw, .string txt, .int .i64 bs, .int .i64 p, .int .i64 e, .slice none 0 0]) ∧ Below w.heap.size w w' := by
  go_enter Tryz.func25, Tryz.ntmps25
  go_wp2
  refine wp_any ?_
  intro wz hwz
  go_loopg [24] 1 (fun kq v24 wr => v24 = .int .i64 0 ∧ wr = wz)
  case atStart => exact ⟨rfl, rfl⟩
  case round =>
    obtain ⟨rfl, hwr⟩ := hrel
    obtain rfl := hwr.symm
    rw [hwz]
    go_wp2
    (try simp only [Exit.inBlock, Exit.then])
    have e0 : ∀ o, (w.alloc o).heap.size = w.heap.size + 1 := by intro o; simp [go_sem]
    have h1 : ∀ A, ((((w.alloc A).alloc (.cells #[.string k, .string sp, .string raw, .string txt, .int .i64 bs, .int .i64 p, .int .i64 e, .slice none 0 0] 45)).alloc (.cells #[.string k, .string sp, .string raw, .string txt, .int .i64 bs, .int .i64 p, .int .i64 e, .slice none 0 0] 45)).heap[w.heap.size + 1]? = some (.cells #[.string k, .string sp, .string raw, .string txt, .int .i64 bs, .int .i64 p, .int .i64 e, .slice none 0 0] 45 (0, 0))) := fun A => by
      have h2 := blk_alloc (blk_new (w.alloc A) (.cells #[.string k, .string sp, .string raw, .string txt, .int .i64 bs, .int .i64 p, .int .i64 e, .slice none 0 0] 45)) (.cells #[.string k, .string sp, .string raw, .string txt, .int .i64 bs, .int .i64 p, .int .i64 e, .slice none 0 0] 45)
      rw [e0] at h2
      exact h2
    refine bodyPost_ret (results_c1 rfl _ _ (w.heap.size + 1) _ rfl (run_loadVar_row _ _ 45 45 _ (0, 0) _ (h1 _) Tryz.underlying45 rfl rfl)) rfl ?_
    exact ⟨rfl, below_alloc (below_alloc (below_alloc (Below.refl _ _) _) _) _⟩
theorem TRow.keepU {w w1 : World} {base b : Nat} {v : Value} {ys : List Tt} (h : TRow w base v ys) (hU : Ups b w w1) (hb : b < base) : TRow w1 base v ys := by
  obtain ⟨h1, h2⟩ := h
  refine ⟨h1, ?_⟩
  rcases h2 with h2 | ⟨g, cap, cur, hv, hb', hh, rest⟩
  · exact .inl h2
  · exact .inr ⟨g, cap, cur, hv, hb', hU.obj hh (by omega), rest⟩
/-! ### the text a -/
def aT : ByteArray := ⟨#[97]⟩
theorem aT_bt : bt aT 0 = 97 := by decide
theorem aT_dense : Dense aT := by
  intro i i0 i1
  have h : i < 1 := i1
  obtain rfl : i = 0 := by omega
  rw [aT_bt]
  decide
theorem aT_run : run isPart aT 0 = 1 := by
  rw [run_step (by decide) (by rw [aT_bt]; decide), run_end (by decide)]
  rfl
theorem aT_word : wordOf aT 0 1 = aT := by decide
theorem aT_plain : kw (upS aT).toList = false := by
  rw [show upS aT = ⟨#[65]⟩ from by decide, ByteArray.toList_mk [65]]
  decide
def x1A (x : St) (sp : ByteArray) : St := { x.ready sp with kind := ⟨#[60, 105, 100, 101, 110, 116, 62]⟩, txt := aT, pos := 1, raw := aT.extract 0 1, te := 1 }
def x2A (x : St) (sp : ByteArray) : St := { x.ready sp with kind := ⟨#[60, 101, 111, 102, 62]⟩, txt := ⟨#[]⟩, pos := 1, raw := aT.extract 1 1, te := 1 }
section
variable {w : World} {b fb : Nat} {x : St}
theorem nextA1 (hL : IsL w b fb x) (hF : IsF w fb aT) (hp : x.pos = 0) (hd : x.dot = false) : Calls Tryz.prog 23 #[.pointer (some ⟨b, 0, none⟩)] w fun e w' => e = .returned .nilIface ∧ Ups b w w' ∧ ∃ sp, IsL w' b fb (x1A x sp) := by
  have hne := hF.ne hL
  have hU0 : Ups b w (w.alloc (.cells #[.nilIface] 56)) := (Ups.refl b w).alloc _
  refine next23_c w b _ hL.lt ((next_dense _ b fb x aT ⟨#[60, 105, 100, 101, 110, 116, 62]⟩ aT 1 (hL.alloc _) (hF.ups hU0 hne) aT_dense (by omega) (by rw [hp]; decide) (by decide) hd (by omega) (by decide) ?_).mono ?_)
  · intro W sp hL' hF'
    have hpos : (x.ready sp).pos = 0 := hp
    have h := tok_word1 W b fb (x.ready sp) aT hL' hF' (by rw [hpos]; omega) (by rw [hpos]; decide) (by decide) (by rw [hpos, aT_bt]; decide) (by rw [hpos, aT_bt]; decide)
    rw [hpos, aT_run, aT_word] at h
    unfold wkind wtxt at h
    rw [aT_plain] at h
    exact h
  · rintro e w' ⟨rfl, hU, sp, hy⟩
    rw [hp] at hy
    exact ⟨rfl, hU, sp, hy⟩
theorem nextA2 (hL : IsL w b fb x) (hF : IsF w fb aT) (hp : x.pos = 1) (hd : x.dot = false) : Calls Tryz.prog 23 #[.pointer (some ⟨b, 0, none⟩)] w fun e w' => e = .returned .nilIface ∧ Ups b w w' ∧ ∃ sp, IsL w' b fb (x2A x sp) := by
  have hne := hF.ne hL
  have hU0 : Ups b w (w.alloc (.cells #[.nilIface] 56)) := (Ups.refl b w).alloc _
  refine next23_c w b _ hL.lt ((next_dense _ b fb x aT ⟨#[60, 101, 111, 102, 62]⟩ ⟨#[]⟩ 1 (hL.alloc _) (hF.ups hU0 hne) aT_dense (by omega) (by rw [hp]; decide) (by decide) hd (by omega) (by decide) ?_).mono ?_)
  · intro W sp hL' hF'
    have hpos : (x.ready sp).pos = 1 := hp
    refine (tok_eof W b fb (x.ready sp) aT hL' hF' (by rw [hpos]; rfl)).mono ?_
    rintro e w' ⟨rfl, hU, hy⟩
    refine ⟨rfl, hU, ?_⟩
    have e1 : ({ x.ready sp with kind := ⟨#[60, 101, 111, 102, 62]⟩ } : St) = { x.ready sp with kind := ⟨#[60, 101, 111, 102, 62]⟩, txt := ⟨#[]⟩, pos := 1 } := by rw [← hpos]; rfl
    rw [← e1]
    exact hy
  · rintro e w' ⟨rfl, hU, sp, hy⟩
    rw [hp] at hy
    exact ⟨rfl, hU, sp, hy⟩
end
/-- Ahead of the first round, and ahead of the second. -/
def RoundA (w : World) (k : Nat) (v : Value) (wr : World) : Prop :=
  ∃ x ys, IsL wr (w.heap.size + 1) w.heap.size x ∧ IsF wr w.heap.size aT ∧ x.dot = false ∧ Below w.heap.size w wr ∧ w.heap.size + 2 ≤ wr.heap.size ∧ TRow wr (w.heap.size + 2) v ys ∧
    ((k = 3 ∧ ys = [] ∧ x.pos = 0) ∨ (k = 2 ∧ x.pos = 1 ∧ ∃ y1, ys = [y1] ∧ y1.txt = aT))
/-- What impl.Lex returns of the text a. -/
def LexA (w : World) (e : Ending) (w' : World) : Prop := ∃ v y1 y2, e = .returned (.tuple #[v, .int .i64 0, .bool true]) ∧ Below w.heap.size w w' ∧ TRow w' (w.heap.size + 2) v [y1, y2] ∧ y1.txt = aT
set_option maxRecDepth 100000 in
set_option maxHeartbeats 8000000 in
theorem lexA_c (w : World) : Calls Tryz.prog 14 #[.string ⟨#[97]⟩] w (LexA w) := by
  go_enter Tryz.func14, Tryz.ntmps14
  go_wp2_with (first | (go_at_call 22; (with_reducible refine (lexerOf_c _ _).mono ?_); rintro e w1 ⟨rfl, rfl⟩))
  have hB1 : Below w.heap.size w ((w.alloc (.cells #[.string ⟨#[]⟩, .string ⟨#[97]⟩, .slice none 0 0] 85)).alloc (.cells #[.pointer (some ⟨w.heap.size, 0, none⟩), .string ⟨#[]⟩, .slice none 0 0, .string ⟨#[]⟩, .string ⟨#[]⟩, .string ⟨#[]⟩, .int .i64 0, .int .i64 0, .int .i64 0, .int .i64 0, .string ⟨#[]⟩, .bool false] 67)) := below_alloc (below_alloc (Below.refl _ _) _) _
  have hs1 : w.heap.size + 2 ≤ ((w.alloc (.cells #[.string ⟨#[]⟩, .string ⟨#[97]⟩, .slice none 0 0] 85)).alloc (.cells #[.pointer (some ⟨w.heap.size, 0, none⟩), .string ⟨#[]⟩, .slice none 0 0, .string ⟨#[]⟩, .string ⟨#[]⟩, .string ⟨#[]⟩, .int .i64 0, .int .i64 0, .int .i64 0, .int .i64 0, .string ⟨#[]⟩, .bool false] 67)).heap.size := by simp
  have hL1 : IsL ((w.alloc (.cells #[.string ⟨#[]⟩, .string ⟨#[97]⟩, .slice none 0 0] 85)).alloc (.cells #[.pointer (some ⟨w.heap.size, 0, none⟩), .string ⟨#[]⟩, .slice none 0 0, .string ⟨#[]⟩, .string ⟨#[]⟩, .string ⟨#[]⟩, .int .i64 0, .int .i64 0, .int .i64 0, .int .i64 0, .string ⟨#[]⟩, .bool false] 67)) (w.heap.size + 1) w.heap.size ⟨⟨#[]⟩, .slice none 0 0, ⟨#[]⟩, ⟨#[]⟩, ⟨#[]⟩, 0, 0, 0, 0, ⟨#[]⟩, false⟩ := by
    have h1 := heap_alloc_new (w.alloc (.cells #[.string ⟨#[]⟩, .string ⟨#[97]⟩, .slice none 0 0] 85)) (.cells #[.pointer (some ⟨w.heap.size, 0, none⟩), .string ⟨#[]⟩, .slice none 0 0, .string ⟨#[]⟩, .string ⟨#[]⟩, .string ⟨#[]⟩, .int .i64 0, .int .i64 0, .int .i64 0, .int .i64 0, .string ⟨#[]⟩, .bool false] 67)
    have hW1 : (w.alloc (.cells #[.string ⟨#[]⟩, .string ⟨#[97]⟩, .slice none 0 0] 85)).heap.size = w.heap.size + 1 := by simp
    rw [hW1] at h1
    exact h1
  have hF1 : IsF ((w.alloc (.cells #[.string ⟨#[]⟩, .string ⟨#[97]⟩, .slice none 0 0] 85)).alloc (.cells #[.pointer (some ⟨w.heap.size, 0, none⟩), .string ⟨#[]⟩, .slice none 0 0, .string ⟨#[]⟩, .string ⟨#[]⟩, .string ⟨#[]⟩, .int .i64 0, .int .i64 0, .int .i64 0, .int .i64 0, .string ⟨#[]⟩, .bool false] 67)) w.heap.size aT := ⟨_, _, blk_alloc (heap_alloc_new w _) _⟩
  go_loopg [2] 3 (fun kq v2 wr => ∃ v, v2 = v ∧ RoundA w kq v wr)
  case atStart => exact ⟨_, rfl, _, [], hL1, hF1, rfl, hB1, hs1, TRow.nil _ _, .inl ⟨rfl, rfl, rfl⟩⟩
  case round =>
    obtain ⟨v, rfl, x, ys, hL, hF, hd, hB, hs, hT, hcase⟩ := hrel
    obtain ⟨VA, VC, hv⟩ := hT.shape
    obtain rfl := hv
    have hne := hF.ne hL
    rcases hcase with ⟨hk, rfl, hp⟩ | ⟨hk, hp, y1, rfl, hy1⟩
    · go_wp2_with (first
        | (go_at_call 23; (with_reducible refine (nextA1 hL hF hp hd).mono ?_); rintro e w4 ⟨rfl, hU4, sp4, hL4⟩; have hF4 := hF.ups hU4 hne; have hB4 := hB.trans (hU4.to_below (show w.heap.size ≤ w.heap.size + 1 by omega) hB.size); have hs4 := Nat.le_trans hs hU4.size; have hT4 := hT.keepU hU4 (show w.heap.size + 1 < w.heap.size + 2 by omega);
           have d1 : w4.cell? ⟨w.heap.size + 1, 1, none⟩ = some (.string ⟨#[60, 105, 100, 101, 110, 116, 62]⟩) := hL4.c1; have d2 : w4.cell? ⟨w.heap.size + 1, 2, none⟩ = some (.slice none 0 0) := hL4.c2; have d3 : w4.cell? ⟨w.heap.size + 1, 3, none⟩ = some (.string sp4) := hL4.c3; have d4 := hL4.c4; have d5 : w4.cell? ⟨w.heap.size + 1, 5, none⟩ = some (.string aT) := hL4.c5; have d6 : w4.cell? ⟨w.heap.size + 1, 6, none⟩ = some (.int .i64 0) := hL4.c6; have d7 := hL4.c7; have d8 := hL4.c8)
        | (go_at_call 25; (with_reducible refine (tokenOf_c _ _ _ _ _ _ _ _).mono ?_); rintro e w5 ⟨rfl, hB5⟩; have hT5 := hT4.below hB5; have hBB5 := hB4.trans (hB5.mono hB4.size); have hs5 := Nat.le_trans hs4 hB5.size; have hL5 := hL4.below hB5; have e1 : w5.cell? ⟨w.heap.size + 1, 1, none⟩ = some (.string ⟨#[60, 105, 100, 101, 110, 116, 62]⟩) := hL5.c1)
        | (at_builtin; refine append_tok (w.heap.size + 2) rfl (.tmp 16) (.tmp 22) rfl _ _ ⟨⟨#[60, 105, 100, 101, 110, 116, 62]⟩, sp4, (x1A x sp4).raw, aT, 0, (x1A x sp4).tp, (x1A x sp4).te, .slice none 0 0⟩ _ rfl rfl rfl ⟨_, _, _, rfl⟩ hT5 hs5 (by simp) ?_; intro v1 w6 hT6 hg6;
           have hL6 : IsL w6 (w.heap.size + 1) w.heap.size (x1A x sp4) := (hg6.block _ (hL5.alloc _).lt (fun he => by have := hT.own _ he.symm; omega)).trans (hL5.alloc _);
           have hF6 : IsF w6 w.heap.size aT := (by obtain ⟨pa, li, hf⟩ := hF4; exact ⟨pa, li, (hg6.block _ (blk_lt (blk_alloc (blk_below hf hB5) _)) (fun he => by have := hT.own _ he.symm; omega)).trans (blk_alloc (blk_below hf hB5) _)⟩);
           have hB6 : Below w.heap.size w w6 := (below_alloc hBB5 _).grown hg6 (below_alloc hBB5 _).size (fun k hk => by have := hT.own k hk; omega);
           have f1 : w6.cell? ⟨w.heap.size + 1, 1, none⟩ = some (.string ⟨#[60, 105, 100, 101, 110, 116, 62]⟩) := hL6.c1))
      go_roundg 2
      case measure => omega
      case rel => exact ⟨_, rfl, _, _, hL6, hF6, hd, hB6, by have := hg6.size; simp at this; omega, hT6, .inr ⟨rfl, rfl, _, rfl, rfl⟩⟩
    · go_wp2_with (first
        | (go_at_call 23; (with_reducible refine (nextA2 hL hF hp hd).mono ?_); rintro e w4 ⟨rfl, hU4, sp4, hL4⟩; have hF4 := hF.ups hU4 hne; have hB4 := hB.trans (hU4.to_below (show w.heap.size ≤ w.heap.size + 1 by omega) hB.size); have hs4 := Nat.le_trans hs hU4.size; have hT4 := hT.keepU hU4 (show w.heap.size + 1 < w.heap.size + 2 by omega);
           have d1 : w4.cell? ⟨w.heap.size + 1, 1, none⟩ = some (.string ⟨#[60, 101, 111, 102, 62]⟩) := hL4.c1; have d2 : w4.cell? ⟨w.heap.size + 1, 2, none⟩ = some (.slice none 0 0) := hL4.c2; have d3 : w4.cell? ⟨w.heap.size + 1, 3, none⟩ = some (.string sp4) := hL4.c3; have d4 := hL4.c4; have d5 : w4.cell? ⟨w.heap.size + 1, 5, none⟩ = some (.string ⟨#[]⟩) := hL4.c5; have d6 : w4.cell? ⟨w.heap.size + 1, 6, none⟩ = some (.int .i64 0) := hL4.c6; have d7 := hL4.c7; have d8 := hL4.c8)
        | (go_at_call 25; (with_reducible refine (tokenOf_c _ _ _ _ _ _ _ _).mono ?_); rintro e w5 ⟨rfl, hB5⟩; have hT5 := hT4.below hB5; have hBB5 := hB4.trans (hB5.mono hB4.size); have hs5 := Nat.le_trans hs4 hB5.size; have hL5 := hL4.below hB5; have e1 : w5.cell? ⟨w.heap.size + 1, 1, none⟩ = some (.string ⟨#[60, 101, 111, 102, 62]⟩) := hL5.c1)
        | (at_builtin; refine append_tok (w.heap.size + 2) rfl (.tmp 16) (.tmp 22) rfl _ _ ⟨⟨#[60, 101, 111, 102, 62]⟩, sp4, (x2A x sp4).raw, ⟨#[]⟩, 0, (x2A x sp4).tp, (x2A x sp4).te, .slice none 0 0⟩ _ rfl rfl rfl ⟨_, _, _, rfl⟩ hT5 hs5 (by simp) ?_; intro v1 w6 hT6 hg6;
           have hL6 : IsL w6 (w.heap.size + 1) w.heap.size (x2A x sp4) := (hg6.block _ (hL5.alloc _).lt (fun he => by have := hT.own _ he.symm; omega)).trans (hL5.alloc _);
           have hF6 : IsF w6 w.heap.size aT := (by obtain ⟨pa, li, hf⟩ := hF4; exact ⟨pa, li, (hg6.block _ (blk_lt (blk_alloc (blk_below hf hB5) _)) (fun he => by have := hT.own _ he.symm; omega)).trans (blk_alloc (blk_below hf hB5) _)⟩);
           have hB6 : Below w.heap.size w w6 := (below_alloc hBB5 _).grown hg6 (below_alloc hBB5 _).size (fun k hk => by have := hT.own k hk; omega);
           have f1 : w6.cell? ⟨w.heap.size + 1, 1, none⟩ = some (.string ⟨#[60, 101, 111, 102, 62]⟩) := hL6.c1))
      (try simp only [Exit.inBlock, Exit.then]); refine bodyPost_ret (results_tmp3 rfl _ _ _ rfl rfl rfl) rfl ?_
      exact ⟨_, y1, _, rfl, hB6, hT6, hy1⟩
set_option maxRecDepth 100000 in
theorem lexes_c (w : World) : Calls Tryz.prog 6 #[] w fun e w' => e = .returned (.bool true) ∧ Below w.heap.size w w' := by
  go_enter Tryz.func6, Tryz.ntmps6
  go_wp2_with (first | (go_at_call 14; (with_reducible refine (lexA_c _).mono ?_); rintro e w1 ⟨v, y1, y2, rfl, hB, hT, hy⟩; obtain ⟨G, C, hv, hc⟩ := hT.get (i := 0) (y := y1) rfl; obtain rfl := hv; have c3 : w1.cell? ⟨G, 3, none⟩ = some (.string ⟨#[97]⟩) := (by have h5 := hc 3 (by omega); rw [← show aT = ⟨#[97]⟩ from rfl, ← hy]; exact h5)))
  go_ret
  exact ⟨rfl, hB⟩
end Go.Proofs.YtjepdlmcombmcaaGreatDoor.Lx
