/- A text is split into lines: what zzIndex and zzSplit leave, as far as their lengths go. Conditions: the text is no longer than a million bytes; the separator is the line feed. -/
import Derived.Test.YtjepdlmcombmcaaGreatDoorGb
import Derived.Shelf.Strings.Builder1
import Derived.Shelf.Strings.Builder2
import Derived.Shelf.Strings.BuilderF
import Derived.Shelf.Strconv.Itoa0
import Derived.Shelf.Strconv.Itoa1
import Derived.Shelf.LaysM
import Derived.Shelf.Strconv.Itoa2
import Derived.Shelf.Strconv.Itoa3
import Derived.Shelf.Bytes.Len
import Derived.Shelf.Bytes.TryGrow
import Derived.Shelf.Bytes.GrowSliceCatch
import Derived.Shelf.Bytes.GrowSlice
import Derived.Shelf.Bytes.GrowRow0
import Derived.Shelf.Bytes.GrowRow
import Derived.Shelf.Bytes.GrowNil
import Derived.Shelf.Bytes.Grow
import Derived.Shelf.Bytes.WriteString
import Derived.Shelf.Bytes.String
import Derived.Shelf.Strings.Prefix
import Derived.Shelf.Unicode.Latin
import Derived.Shelf.Unicode.Decode
import Derived.Shelf.Bits.Mul64
import Derived.Shelf.Strings.Repeat
import Derived.Shelf.Unicode.DecodeSlow
import Derived.Shelf.Unicode.DecodeAny
import Derived.Shelf.Unicode.Is16White
import Derived.Shelf.Unicode.IsSpaceAny
import Derived.Shelf.Unicode.Is16Any
import Derived.Shelf.Unicode.Is32Any
import Derived.Shelf.Unicode.ExclAny
import Derived.Test.YtjepdlmcombmcaaGreatDoorProg
import Derived.Lib.ItoaLen
namespace Go.Proofs.YtjepdlmcombmcaaGreatDoor.Lx
open Go.RowKit Go.Proofs.YtjepdlmcombmcaaGreatDoorW.PrintWords

theorem zzIndex_c (s : ByteArray) (w : World) (hs : (s.size : Int) ≤ 1000000) :
    Calls Tryz.prog 167 #[.string s, .string ⟨#[10]⟩] w fun e w' => (∃ i : Int, e = .returned (.int .i64 i) ∧ (i = -1 ∨ 0 ≤ i ∧ i < (s.size : Int))) ∧ Drawn0 w w' := by
  go_enter Tryz.func167, Tryz.ntmps167
  go_wp2
  go_loopg [5] (s.size + 1) (fun kq v5 wr => ∃ i : Int, v5 = .int .i64 i ∧ Aside0 ((0 ≤ i ∧ i ≤ (s.size : Int)) ∧ ((s.size : Int) - i).toNat < kq) ∧ Drawn0 w wr)
  case atStart => exact ⟨0, rfl, ⟨⟨Int.le_refl _, by omega⟩, by omega⟩, Drawn0.refl _⟩
  case round =>
    obtain ⟨i, rfl, HA, ⟨m1, rfl⟩⟩ := hrel
    have i0 := HA.out.1.1
    by_cases hi : i < (s.size : Int)
    · have hw := iwrap (i + 1) (by omega) (by omega)
      have hi2 : i + 1 ≤ (s.size : Int) := by omega
      cases hc : ((s.extract i.toNat (i + 1).toNat).toList == [10])
      · go_wp2
        go_roundg (((s.size : Int) - (i + 1)).toNat + 1)
        case measure => have := HA.out.2; omega
        case rel => exact ⟨i + 1, rfl, ⟨⟨by omega, by omega⟩, by omega⟩, by repeat (first | exact Drawn0.refl _ | apply Drawn0.step)⟩
      · go_wp2
        go_ret
        exact ⟨⟨i, rfl, .inr ⟨i0, hi⟩⟩, by repeat (first | exact Drawn0.refl _ | apply Drawn0.step)⟩
    · have hie := HA.out.1.2
      have hw := iwrap (i + 1) (by omega) (by omega)
      have hi3 : decide (i + 1 ≤ (s.size : Int)) = false := decide_eq_false (by omega)
      go_wp2
      go_ret
      exact ⟨⟨-1, rfl, .inl rfl⟩, by repeat (first | exact Drawn0.refl _ | apply Drawn0.step)⟩

/-- The lengths of the lines, each with its line feed. -/
def spans (ss : List ByteArray) : Int := (ss.map fun l => (l.size : Int) + 1).sum
theorem spans_add (ss : List ByteArray) (t : ByteArray) : spans (ss ++ [t]) = spans ss + t.size + 1 := by
  unfold spans
  rw [List.map_append, List.sum_append]
  simp
  omega
/-- The slice v holds just these texts. -/
def OwnS (w : World) (base : Nat) (v : Value) (ss : List ByteArray) : Prop := w.ownsRow base 9 1 v ss.length (ss.map Value.string)
theorem info9 : (Tryz.prog.info? 9).map (fun i => (i.zero, i.size, i.bytes)) = some (some (.string ⟨#[]⟩), 1, 16) := by kernel_rfl

set_option maxRecDepth 100000 in
theorem zzSplit_c (s : ByteArray) (w : World) (hs : (s.size : Int) ≤ 1000000) :
    Calls Tryz.prog 155 #[.string s, .string ⟨#[10]⟩] w fun e w' => ∃ v ss, e = .returned v ∧ OwnS w' w.heap.size v ss ∧ spans ss = (s.size : Int) + 1 ∧ Below w.heap.size w w' := by
  go_enter Tryz.func155, Tryz.ntmps155
  go_wp2
  go_loopg [0, 5] (s.size + 1) (fun kq v0 v5 wr => ∃ (t : ByteArray) (ss : List ByteArray), v0 = .string t ∧ Aside0 (OwnS wr w.heap.size v5 ss) ∧ Aside0 (spans ss + t.size = (s.size : Int) ∧ t.size < kq) ∧ Aside0 (Below w.heap.size w wr) ∧ Aside0 (ss.length + t.size ≤ s.size))
  case atStart => exact ⟨s, [], rfl, ⟨⟨rfl, .inl ⟨rfl, rfl⟩⟩⟩, ⟨by simp [spans], by omega⟩, ⟨Below.refl _ _⟩, ⟨by simp⟩⟩
  case round =>
    obtain ⟨t, ss, rfl, HO, HA, HB, HL⟩ := hrel
    have hts : (t.size : Int) ≤ 1000000 := by have := HL.out; omega
    have hsl : ss.length ≤ 1000000 := by have := HL.out; omega
    have hst1 : (Value.string t).oneCell' = true := rfl
    go_wp2_with (first
      | (go_at_call 167; (with_reducible refine (zzIndex_c t _ hts).mono ?_); rintro e w1 ⟨⟨i, rfl, hi⟩, ⟨n1, rfl⟩⟩; have HI := Aside0.mk hi;
         have hd : (decide (i < 0) = false ∧ 0 ≤ i ∧ i < (t.size : Int)) ∨ i = -1 := (by rcases hi with h | h; exact .inr h; exact .inl ⟨decide_eq_false (by omega), h⟩); clear hi HI; rcases hd with ⟨hd, i0, i1⟩ | rfl)
      | (at_builtin; refine print_append_cells (w0 := w) w.heap.size rfl (.tmp 42) (.tmp 44) 31 9 (.string ⟨#[]⟩) 1 16 rfl Tryz.underlying31 info9 rfl (by decide) (by decide) _ ss.length _ [.string t] rfl rfl rfl (by simp [Value.oneCell']) HO.out (pw_below_drewN HB.out _) HB.out.size (by omega) ?_; intro v1 w1 HO1 HB1 hg1 hat1)
      | (at_builtin; refine print_append_cells (w0 := w) w.heap.size rfl (.tmp 46) (.tmp 50) 31 9 (.string ⟨#[]⟩) 1 16 rfl Tryz.underlying31 info9 rfl (by decide) (by decide) _ ss.length _ [.string (t.extract 0 i.toNat)] rfl rfl rfl (by simp [Value.oneCell']) HO.out (pw_below_drewN HB.out _) HB.out.size (by omega) ?_; intro v1 w1 HO1 HB1 hg1 hat1;
         have hw1 := iwrap (i + 1) (by omega) (by omega)))
    · have hz : (t.extract (i + 1).toNat t.size).size = t.size - (i + 1).toNat := by rw [ByteArray.size_extract]; omega
      have hz0 : (t.extract 0 i.toNat).size = i.toNat := by rw [ByteArray.size_extract]; omega
      go_roundg ((t.extract (i + 1).toNat t.size).size + 1)
      case measure => have := HA.out.2; omega
      case rel =>
        refine ⟨_, ss ++ [t.extract 0 i.toNat], rfl, ⟨?_⟩, ⟨?_, by omega⟩, ⟨HB1⟩, ⟨?_⟩⟩
        · unfold OwnS
          rw [List.length_append, List.map_append]
          exact HO1
        · have := HA.out.1
          rw [spans_add, hz0]
          omega
        · have := HL.out
          rw [List.length_append, List.length_singleton]
          omega
    · go_ret
      refine ⟨_, ss ++ [t], rfl, ?_, ?_, HB1⟩
      · unfold OwnS
        rw [List.length_append, List.map_append]
        exact HO1
      · have := HA.out.1
        rw [spans_add]
        omega
end Go.Proofs.YtjepdlmcombmcaaGreatDoor.Lx

/- The file's lines: what init lays. Conditions: the file holds the text and no lines yet. -/
namespace Go.Proofs.YtjepdlmcombmcaaGreatDoor.Lx
open Go.RowKit Go.Proofs.YtjepdlmcombmcaaGreatDoorW.PrintWords

/-- The file at block fb holds the text s, and no lines yet. -/
def IsF0 (w : World) (fb : Nat) (s : ByteArray) : Prop := ∃ path, w.heap[fb]? = some (.cells #[.string path, .string s, .slice none 0 0] 85 (0, 0))
theorem IsF0.isF {w : World} {fb : Nat} {s : ByteArray} (h : IsF0 w fb s) : IsF w fb s := by
  obtain ⟨path, h⟩ := h
  exact ⟨path, _, h⟩
/-- The lines' heads: they begin at 0, each next one lies behind, the last is e. -/
structure Heads (L : List Int) (e : Int) : Prop where
  pos : 0 < L.length
  head : L.getD 0 0 = 0
  step : ∀ i, i + 1 < L.length → L.getD i 0 + 1 ≤ L.getD (i + 1) 0
  last : L.getD (L.length - 1) 0 = e
theorem Heads.one : Heads [0] 0 := ⟨by decide, rfl, fun i hi => by simp at hi, rfl⟩
theorem Heads.add {L : List Int} {e k : Int} (h : Heads L e) (hk : 1 ≤ k) : Heads (L ++ [e + k]) (e + k) := by
  have hp := h.pos
  refine ⟨by simp, ?_, fun i hi => ?_, ?_⟩
  · rw [List.getD_eq_getElem?_getD, List.getElem?_append_left hp, ← List.getD_eq_getElem?_getD]
    exact h.head
  · rw [List.length_append, List.length_singleton] at hi
    by_cases h1 : i + 1 < L.length
    · rw [List.getD_eq_getElem?_getD, List.getElem?_append_left (by omega), ← List.getD_eq_getElem?_getD, List.getD_eq_getElem?_getD (l := L ++ _), List.getElem?_append_left h1, ← List.getD_eq_getElem?_getD]
      exact h.step i h1
    · have e1 : i = L.length - 1 := by omega
      have e2 : i + 1 = L.length := by omega
      rw [e2, List.getD_eq_getElem?_getD, List.getElem?_append_left (by omega), ← List.getD_eq_getElem?_getD, List.getD_eq_getElem?_getD (l := L ++ _), List.getElem?_append_right (Nat.le_refl _)]
      simp only [Nat.sub_self, List.getElem?_cons_zero, Option.getD_some]
      rw [e1, h.last]
      omega
  · rw [List.length_append, List.length_singleton, Nat.add_sub_cancel, List.getD_eq_getElem?_getD, List.getElem?_append_right (Nat.le_refl _)]
    simp
theorem Heads.mono {L : List Int} {e : Int} (h : Heads L e) (i : Nat) (hi : i < L.length) : 0 ≤ L.getD i 0 := by
  induction i with
  | zero => rw [h.head]; omega
  | succ n ih =>
    have := ih (by omega)
    have := h.step n hi
    omega
theorem Heads.le {L : List Int} {e : Int} (h : Heads L e) : ∀ (k i : Nat), i + k + 1 = L.length → L.getD i 0 + k ≤ e := by
  intro k
  induction k with
  | zero =>
    intro i hi
    have : i = L.length - 1 := by omega
    rw [this, h.last]
    omega
  | succ k ih =>
    intro i hi
    have h1 := ih (i + 1) (by omega)
    have h2 := h.step i (by omega)
    omega
/-- The slice v holds just these numbers. -/
def OwnI (w : World) (base : Nat) (v : Value) (L : List Int) : Prop := w.ownsRow base 63 1 v L.length (nums .i64 L)
theorem OwnI.form {w : World} {base : Nat} {v : Value} {L : List Int} (h : OwnI w base v L) (hp : 0 < L.length) :
    ∃ g cap, v = .slice (some ⟨g, 0, none⟩) L.length cap ∧ base ≤ g ∧ L.length ≤ cap ∧ (∀ i, i < L.length → w.cell? ⟨g, i, none⟩ = some (.int .i64 (L.getD i 0))) := by
  obtain ⟨hl, ⟨_, h0⟩ | ⟨g, cap, cur, hv, hb, hh, h1, h2, h3, h4⟩⟩ := h
  · omega
  · refine ⟨g, cap, hv, hb, h1, fun i hi => ?_⟩
    rw [blk_cell hh i, ← Array.getElem?_toList]
    have h5 : (cur.toList.take (L.length * 1))[i]? = (nums .i64 L)[i]? := by rw [h4]
    rw [Nat.mul_one, List.getElem?_take_of_lt hi] at h5
    rw [h5]
    simp [nums, hi, List.getD_eq_getElem?_getD]
theorem OwnS.form {w : World} {base : Nat} {v : Value} {ss : List ByteArray} (h : OwnS w base v ss) (hp : 0 < ss.length) :
    ∃ g cap, v = .slice (some ⟨g, 0, none⟩) ss.length cap ∧ base ≤ g ∧ (∀ i, i < ss.length → w.cell? ⟨g, i, none⟩ = some (.string (ss.getD i ⟨#[]⟩))) := by
  obtain ⟨hl, ⟨_, h0⟩ | ⟨g, cap, cur, hv, hb, hh, h1, h2, h3, h4⟩⟩ := h
  · omega
  · refine ⟨g, cap, hv, hb, fun i hi => ?_⟩
    rw [blk_cell hh i, ← Array.getElem?_toList]
    have h5 : (cur.toList.take (ss.length * 1))[i]? = (ss.map Value.string)[i]? := by rw [h4]
    rw [Nat.mul_one, List.getElem?_take_of_lt hi] at h5
    rw [h5]
    simp [hi, List.getD_eq_getElem?_getD]
theorem info63 : (Tryz.prog.info? 63).map (fun i => (i.zero, i.size, i.bytes)) = some (some (.int .i64 0), 1, 8) := by kernel_rfl
end Go.Proofs.YtjepdlmcombmcaaGreatDoor.Lx

/- The file's lines are laid. Conditions: the file holds the text and no lines yet; the text is no longer than a million bytes. -/
namespace Go.Proofs.YtjepdlmcombmcaaGreatDoor.Lx
open Go.RowKit Go.Proofs.YtjepdlmcombmcaaGreatDoorW.PrintWords

theorem spans_ge (ss : List ByteArray) : (ss.length : Int) ≤ spans ss := by
  unfold spans
  induction ss with
  | nil => simp
  | cons t ts ih =>
    simp only [List.length_cons, List.map_cons, List.sum_cons]
    omega
theorem spans_take (ss : List ByteArray) (i : Nat) (hi : i < ss.length) : spans (ss.take (i + 1)) = spans (ss.take i) + ((ss.getD i ⟨#[]⟩).size : Int) + 1 := by
  rw [List.take_add_one, List.getElem?_eq_getElem hi, Option.toList_some, spans_add]
  simp [List.getD_eq_getElem?_getD, hi]
theorem spans_le (ss : List ByteArray) (i : Nat) : 0 ≤ spans (ss.take i) ∧ spans (ss.take i) ≤ spans ss := by
  have h : spans ss = spans (ss.take i) + spans (ss.drop i) := by
    unfold spans
    rw [← List.sum_append, ← List.map_append, List.take_append_drop]
  have h1 := spans_ge (ss.take i)
  have h2 := spans_ge (ss.drop i)
  omega

set_option maxRecDepth 100000 in
set_option maxHeartbeats 1000000 in
theorem init_c (fb : Nat) (s : ByteArray) (w : World) (hF : IsF0 w fb s) (hs : (s.size : Int) ≤ 1000000) :
    Calls Tryz.prog 138 #[.pointer (some ⟨fb, 0, none⟩)] w fun e w' => e = .returned (.tuple #[]) ∧ Ups fb w w' ∧ ∃ path v L, w'.heap[fb]? = some (.cells #[.string path, .string s, v] 85 (0, 0)) ∧ OwnI w' w.heap.size v L ∧ Heads L ((s.size : Int) + 1) := by
  obtain ⟨path, hF⟩ := hF
  have F1 := (blk_cell hF 1).trans rfl
  have F2 := (blk_cell hF 2).trans rfl
  have hfb := blk_lt hF
  have hn2 := fun (W : World) (a : Option Addr) (l c : Nat) => run_neq_slice_nil_any (P := Tryz.prog) W 83 63 a l c 0 0 Tryz.underlying83
  have e1 : ∀ o, (w.alloc o).heap.size = w.heap.size + 1 := by intro o; simp [go_sem]
  have hFa := blk_alloc hF (.cells #[.int .i64 0] 63)
  have F1a := (blk_cell hFa 1).trans rfl
  have HO0 : OwnI (w.alloc (.cells #[.int .i64 0] 63)) w.heap.size (.slice (some ⟨w.heap.size, 0, none⟩) 1 1) [0] := by
    refine ⟨rfl, .inr ⟨w.heap.size, 1, #[.int .i64 0], rfl, Nat.le_refl _, blk_new w _, Nat.le_refl _, by simp [maxLen], rfl, rfl⟩⟩
  go_enter Tryz.func138, Tryz.ntmps138
  go_wp2_with (first
    | (go_at_call 155; (with_reducible refine (zzSplit_c s _ hs).mono ?_); rintro e w1 ⟨v15, ss, rfl, HS, hsp, hb1⟩;
       have hge := spans_ge ss; have hp : 0 < ss.length := (by rcases Nat.eq_zero_or_pos ss.length with h | h; (have e0 : ss = [] := List.eq_nil_of_length_eq_zero h); subst e0; (have e3 : spans [] = 0 := rfl); omega; exact h);
       have hF1 := blk_below hFa hb1; have HO1 : OwnI w1 w.heap.size (.slice (some ⟨w.heap.size, 0, none⟩) 1 1) [0] := (own_other HO0 (grown_of_below hb1 Option.none) (.inr (by simp [Value.ownBlock])));
       have hB1 : Below w.heap.size w w1 := (below_weaken (below_alloc (Below.refl _ _) _) (by rw [e1]; omega) hb1);
       obtain ⟨g15, cap15, rfl, hg15, hc15⟩ := HS.form hp; have HP := Aside0.mk hp; have HSP := Aside0.mk hsp; clear hc15))
  go_loopg [2, 17] (ss.length + 1) (fun kq v2 v17 wr => ∃ (i : Int) (L : List Int), v17 = .int .i64 i ∧ Aside0 (OwnI wr w.heap.size v2 L) ∧ Aside0 (Heads L (spans (ss.take i.toNat)) ∧ L.length = i.toNat + 1 ∧ 0 ≤ i ∧ i ≤ (ss.length : Int) ∧ ss.length - i.toNat < kq) ∧ Aside0 (Below w.heap.size w wr) ∧ Aside0 (OwnS wr (w.heap.size + 1) (.slice (some ⟨g15, 0, none⟩) ss.length cap15) ss))
  case atStart => exact ⟨0, [0], rfl, ⟨HO1⟩, ⟨Heads.one, rfl, by omega, by omega, by omega⟩, ⟨hB1⟩, ⟨by rw [e1] at HS; exact HS⟩⟩
  case round =>
    obtain ⟨i, L, rfl, HO, HA, HB, HS'⟩ := hrel
    have i0 : 0 ≤ i := HA.out.2.2.1
    have hpl := HA.out.1.pos
    obtain ⟨g2, cap2, rfl, hg2, hlc2, hc2⟩ := HO.out.form hpl
    by_cases hi : i < (ss.length : Int)
    · obtain ⟨g3, cap3, hv3, hg3, hc3⟩ := HS'.out.form HP.out
      injection hv3 with e4 e5 e6
      injection e4 with e4
      injection e4 with e4
      subst e4 e6
      have c3 := hc3 i.toNat (by omega)
      have c2 := hc2 i.toNat (by have := HA.out.2.1; omega)
      have hil : i < (L.length : Int) := by have := HA.out.2.1; omega
      have hlast : L.getD i.toNat 0 = spans (ss.take i.toNat) := by
        have h1 := HA.out.1.last
        rw [HA.out.2.1, Nat.add_sub_cancel] at h1
        exact h1
      have hsl := spans_le ss i.toNat
      have htk := spans_take ss i.toNat (by omega)
      have hsl2 := spans_le ss (i.toNat + 1)
      have hspz := HSP.out
      obtain ⟨t, ht⟩ : ∃ t, ss.getD i.toNat ⟨#[]⟩ = t := ⟨_, rfl⟩
      obtain ⟨z, hz⟩ : ∃ z, spans (ss.take i.toNat) = z := ⟨_, rfl⟩
      rw [ht] at c3 htk
      rw [hlast, hz] at c2
      rw [hz] at htk hsl
      have hw1 := iwrap (z + (t.size : Int)) (by omega) (by omega)
      have hw2 := iwrap (z + (t.size : Int) + 1) (by omega) (by omega)
      have hw3 := iwrap (i + 1) (by omega) (by omega)
      have hlb : (L.length + 1) * 8 ≤ 140737488355328 := by have := HA.out.2.1; omega
      have HK := Aside0.mk (And.intro htk hz)
      clear htk hz hlast ht hc2 hc3 hsl hsl2 hspz e5 hlc2
      go_wp2_with (first
        | (at_builtin; refine print_append_cells (w0 := w) w.heap.size rfl (.tmp 22) (.tmp 31) 83 63 (.int .i64 0) 1 8 rfl Tryz.underlying83 info63 rfl (by decide) (by decide) _ L.length _ [.int .i64 (z + (t.size : Int) + 1)] rfl rfl rfl (by simp [Value.oneCell']) HO.out HB.out HB.out.size hlb ?_; intro v1 w2 HO2 HB2 hgr2 hat2))
      go_roundg (ss.length - (i + 1).toNat + 1)
      case measure => have := HA.out.2.2.2.2; omega
      case rel =>
        have hz := HK.out.2
        have htk := HK.out.1
        have et : (i + 1).toNat = i.toNat + 1 := by omega
        refine ⟨i + 1, L ++ [z + (t.size : Int) + 1], rfl, ⟨?_⟩, ⟨?_, ?_, by omega, by omega, by omega⟩, ⟨HB2⟩, ⟨own_other HS'.out hgr2 (own_type_ne HS'.out HO.out (by decide))⟩⟩
        · unfold OwnI
          rw [List.length_append, nums_append]
          exact HO2
        · rw [et, htk, Int.add_assoc]
          have h := HA.out.1
          rw [hz] at h
          exact h.add (by omega)
        · have := HA.out.2.1
          rw [List.length_append, List.length_singleton]
          omega
    · have hie : i = (ss.length : Int) := by have := HA.out.2.2.2.1; omega
      have hFr := blk_below hF HB.out
      have f2 := (blk_cell hFr 2).trans rfl
      have f3 := blk_frozen hFr 2
      have hh : Heads L ((s.size : Int) + 1) := by
        have h := HA.out.1
        rw [hie, Int.toNat_natCast, List.take_length, HSP.out] at h
        exact h
      have HH := Aside0.mk hh
      have HO' := Aside0.mk HO.out
      clear hh hc2 HO
      subst hie
      go_wp2
      go_end0
      exact ⟨rfl, ((Ups.refl fb w).below HB.out).set 2 _, path, (.slice (some ⟨g2, 0, none⟩) L.length cap2), blk_put hFr 2 _ rfl, L, own_setCell HO'.out (by simp [Value.ownBlock]; omega) _, HH.out⟩
end Go.Proofs.YtjepdlmcombmcaaGreatDoor.Lx

/- A place's line and column. Conditions: the file's state; the place lies in the text. -/
namespace Go.Proofs.YtjepdlmcombmcaaGreatDoor.Lx
open Go.RowKit Go.Proofs.YtjepdlmcombmcaaGreatDoorW.PrintWords

/-- The file at block fb holds the text s, and its lines L lie as v. -/
def IsFI (w : World) (fb B : Nat) (s : ByteArray) (v : Value) (L : List Int) : Prop :=
  ∃ path, w.heap[fb]? = some (.cells #[.string path, .string s, v] 85 (0, 0)) ∧ OwnI w B v L ∧ Heads L ((s.size : Int) + 1)
def FileOk (w : World) (fb B : Nat) (s : ByteArray) : Prop := IsF0 w fb s ∨ ∃ v L, IsFI w fb B s v L
theorem initAny_c (fb B : Nat) (s : ByteArray) (w : World) (hF : FileOk w fb B s) (hB : B ≤ w.heap.size) (hs : (s.size : Int) ≤ 1000000) :
    Calls Tryz.prog 138 #[.pointer (some ⟨fb, 0, none⟩)] w fun e w' => e = .returned (.tuple #[]) ∧ Ups fb w w' ∧ ∃ v L, IsFI w' fb B s v L := by
  rcases hF with hF | ⟨v, L, hI⟩
  · refine (init_c fb s w hF hs).mono ?_
    rintro e w' ⟨rfl, hU, path, v, L, h1, h2, h3⟩
    exact ⟨rfl, hU, v, L, path, h1, own_weaken h2 hB, h3⟩
  · have hI' := Aside0.mk hI
    obtain ⟨path, h1, h2, h3⟩ := hI
    obtain ⟨g, cap, rfl, _, _, _⟩ := h2.form h3.pos
    have F2 := (blk_cell h1 2).trans rfl
    have hn2 := fun (W : World) (a : Option Addr) (l c : Nat) => run_neq_slice_nil_any (P := Tryz.prog) W 83 63 a l c 0 0 Tryz.underlying83
    clear h2 h3
    go_enter Tryz.func138, Tryz.ntmps138
    go_wp2
    (try simp only [Exit.inBlock, Exit.then]); refine bodyPost_ret (results_none rfl _ _ _) rfl ?_
    exact ⟨rfl, Ups.refl _ _, _, L, hI'.out⟩

theorem initI_c (fb B : Nat) (s : ByteArray) (v : Value) (L : List Int) (w : World) (hI : IsFI w fb B s v L) :
    Calls Tryz.prog 138 #[.pointer (some ⟨fb, 0, none⟩)] w fun e w' => e = .returned (.tuple #[]) ∧ w' = w := by
  obtain ⟨path, h1, h2, h3⟩ := hI
  obtain ⟨g, cap, rfl, _, _, _⟩ := h2.form h3.pos
  have F2 := (blk_cell h1 2).trans rfl
  have hn2 := fun (W : World) (a : Option Addr) (l c : Nat) => run_neq_slice_nil_any (P := Tryz.prog) W 83 63 a l c 0 0 Tryz.underlying83
  clear h2 h3
  go_enter Tryz.func138, Tryz.ntmps138
  go_wp2
  (try simp only [Exit.inBlock, Exit.then]); refine bodyPost_ret (results_none rfl _ _ _) rfl ?_
  exact ⟨rfl, rfl⟩

theorem invalid_c (p : Int) (w : World) (h0 : 0 ≤ p) : Calls Tryz.prog 123 #[.int .i64 p] w fun e w' => e = .returned (.bool false) ∧ w' = w := by
  have hd : decide (p < 0) = false := decide_eq_false (by omega)
  go_enter Tryz.func123, Tryz.ntmps123
  go_wp2
  go_ret
  exact ⟨rfl, rfl⟩

/-- Line i holds the place p. -/
def OnLine (L : List Int) (p i : Int) : Prop := 0 ≤ i ∧ i + 1 < (L.length : Int) ∧ L.getD i.toNat 0 ≤ p ∧ p < L.getD (i + 1).toNat 0
set_option maxHeartbeats 1000000 in
theorem resolve_c (fb B : Nat) (s : ByteArray) (p : Int) (w : World) (hF : FileOk w fb B s) (hB : B ≤ w.heap.size) (hs : (s.size : Int) ≤ 1000000) (hp0 : 0 ≤ p) (hp1 : p ≤ (s.size : Int)) :
    Calls Tryz.prog 122 #[.pointer (some ⟨fb, 0, none⟩), .int .i64 p] w fun e w' => ∃ (i : Int) (v : Value) (L : List Int), e = .returned (.tuple #[.int .i64 i, .int .i64 (p - L.getD i.toNat 0)]) ∧ OnLine L p i ∧ Ups fb w w' ∧ IsFI w' fb B s v L := by
  go_enter Tryz.func122, Tryz.ntmps122
  go_wp2_with (first
    | (go_at_call 123; (with_reducible refine (invalid_c p _ hp0).mono ?_); rintro e w' ⟨rfl, rfl⟩)
    | (go_at_call 138; (with_reducible refine (initAny_c fb B s _ hF hB hs).mono ?_); rintro e w1 ⟨rfl, hU, v, L, hI⟩; have HI := Aside0.mk hI; obtain ⟨path, h1, h2, h3⟩ := hI; obtain ⟨g, cap, rfl, hg, hlc, hc⟩ := h2.form h3.pos; have F2 := (blk_cell h1 2).trans rfl; have HH := Aside0.mk h3;
       have hlen : 0 < L.length := HH.out.pos; have hll : (L.length : Int) ≤ 1000002 := (by have h := HH.out.le (L.length - 1) 0 (by omega); rw [HH.out.head] at h; omega); have hwl := iwrap ((L.length : Int) - 1) (by omega) (by omega); have HC := Aside0.mk hc; clear h2 h3 hc))
  go_loopg [4] (L.length + 1) (fun kq v4 wr => ∃ i : Int, v4 = .int .i64 i ∧ Aside0 (0 ≤ i ∧ i < (L.length : Int) ∧ i.toNat < kq ∧ (i + 1 < (L.length : Int) → p < L.getD (i + 1).toNat 0)) ∧ wr = w1)
  case atStart => exact ⟨_, rfl, ⟨by omega, by omega, by omega, fun h => by omega⟩, rfl⟩
  case round =>
    obtain ⟨i, rfl, HA, rfl⟩ := hrel
    have i0 := HA.out.1
    have i1 := HA.out.2.1
    have hd0 : decide (0 ≤ i) = true := decide_eq_true i0
    have c2 := HC.out i.toNat (by omega)
    obtain ⟨z, hz⟩ : ∃ z, L.getD i.toNat 0 = z := ⟨_, rfl⟩
    rw [hz] at c2
    have HZ := Aside0.mk hz
    clear hz
    have hz0 : 0 ≤ z := by
      have h := HH.out.mono i.toNat (by omega)
      rw [HZ.out] at h
      exact h
    by_cases hzp : z ≤ p
    · have hw := iwrap (p - z) (by omega) (by omega)
      go_wp2
      (try simp only [Exit.inBlock, Exit.then]); refine bodyPost_ret (results_tmp2 rfl _ _ _) rfl ?_
      have hl : i + 1 < (L.length : Int) := by
        by_cases h : i + 1 < (L.length : Int)
        · exact h
        · have h2 := HH.out.last
          have e2 : L.length - 1 = i.toNat := by omega
          rw [e2, HZ.out] at h2
          omega
      refine ⟨i, _, L, ?_, ⟨i0, hl, by rw [HZ.out]; exact hzp, HA.out.2.2.2 hl⟩, hU, HI.out⟩
      rw [HZ.out]
      rfl
    · have hd : decide (z ≤ p) = false := decide_eq_false hzp
      have hi1 : 1 ≤ i := by
        by_cases h : 1 ≤ i
        · exact h
        · have e2 : i = 0 := by omega
          have h2 := HZ.out
          rw [e2] at h2
          have h3 := HH.out.head
          simp only [Int.toNat_zero] at h2
          rw [h3] at h2
          omega
      have hw := iwrap (i - 1) (by omega) (by omega)
      go_wp2
      go_roundg i.toNat
      case measure => have := HA.out.2.2.1; omega
      case rel =>
        refine ⟨i - 1, rfl, ⟨by omega, by omega, by omega, fun _ => ?_⟩, rfl⟩
        have e2 : i - 1 + 1 = i := by omega
        rw [e2, HZ.out]
        omega

set_option maxHeartbeats 1000000 in
theorem resolveI_c (fb B : Nat) (s : ByteArray) (v : Value) (L : List Int) (p : Int) (w : World) (hI : IsFI w fb B s v L) (hs : (s.size : Int) ≤ 1000000) (hp0 : 0 ≤ p) (hp1 : p ≤ (s.size : Int)) :
    Calls Tryz.prog 122 #[.pointer (some ⟨fb, 0, none⟩), .int .i64 p] w fun e w' => ∃ i : Int, e = .returned (.tuple #[.int .i64 i, .int .i64 (p - L.getD i.toNat 0)]) ∧ OnLine L p i ∧ w' = w := by
  go_enter Tryz.func122, Tryz.ntmps122
  go_wp2_with (first
    | (go_at_call 123; (with_reducible refine (invalid_c p _ hp0).mono ?_); rintro e w' ⟨rfl, rfl⟩)
    | (go_at_call 138; (with_reducible refine (initI_c fb B s v L _ hI).mono ?_); rintro e w1 ⟨rfl, rfl⟩; have HI := Aside0.mk hI; obtain ⟨path, h1, h2, h3⟩ := hI; obtain ⟨g, cap, rfl, hg, hlc, hc⟩ := h2.form h3.pos; have F2 := (blk_cell h1 2).trans rfl; have HH := Aside0.mk h3;
       have hlen : 0 < L.length := HH.out.pos; have hll : (L.length : Int) ≤ 1000002 := (by have h := HH.out.le (L.length - 1) 0 (by omega); rw [HH.out.head] at h; omega); have hwl := iwrap ((L.length : Int) - 1) (by omega) (by omega); have HC := Aside0.mk hc; clear h2 h3 hc))
  go_loopg [4] (L.length + 1) (fun kq v4 wr => ∃ i : Int, v4 = .int .i64 i ∧ Aside0 (0 ≤ i ∧ i < (L.length : Int) ∧ i.toNat < kq ∧ (i + 1 < (L.length : Int) → p < L.getD (i + 1).toNat 0)) ∧ wr = w1)
  case atStart => exact ⟨_, rfl, ⟨by omega, by omega, by omega, fun h => by omega⟩, rfl⟩
  case round =>
    obtain ⟨i, rfl, HA, rfl⟩ := hrel
    have i0 := HA.out.1
    have i1 := HA.out.2.1
    have hd0 : decide (0 ≤ i) = true := decide_eq_true i0
    have c2 := HC.out i.toNat (by omega)
    obtain ⟨z, hz⟩ : ∃ z, L.getD i.toNat 0 = z := ⟨_, rfl⟩
    rw [hz] at c2
    have HZ := Aside0.mk hz
    clear hz
    have hz0 : 0 ≤ z := by
      have h := HH.out.mono i.toNat (by omega)
      rw [HZ.out] at h
      exact h
    by_cases hzp : z ≤ p
    · have hw := iwrap (p - z) (by omega) (by omega)
      go_wp2
      (try simp only [Exit.inBlock, Exit.then]); refine bodyPost_ret (results_tmp2 rfl _ _ _) rfl ?_
      have hl : i + 1 < (L.length : Int) := by
        by_cases h : i + 1 < (L.length : Int)
        · exact h
        · have h2 := HH.out.last
          have e2 : L.length - 1 = i.toNat := by omega
          rw [e2, HZ.out] at h2
          omega
      refine ⟨i, ?_, ⟨i0, hl, by rw [HZ.out]; exact hzp, HA.out.2.2.2 hl⟩, rfl⟩
      rw [HZ.out]
      rfl
    · have hd : decide (z ≤ p) = false := decide_eq_false hzp
      have hi1 : 1 ≤ i := by
        by_cases h : 1 ≤ i
        · exact h
        · have e2 : i = 0 := by omega
          have h2 := HZ.out
          rw [e2] at h2
          have h3 := HH.out.head
          simp only [Int.toNat_zero] at h2
          rw [h3] at h2
          omega
      have hw := iwrap (i - 1) (by omega) (by omega)
      go_wp2
      go_roundg i.toNat
      case measure => have := HA.out.2.2.1; omega
      case rel =>
        refine ⟨i - 1, rfl, ⟨by omega, by omega, by omega, fun _ => ?_⟩, rfl⟩
        have e2 : i - 1 + 1 = i := by omega
        rw [e2, HZ.out]
        omega
end Go.Proofs.YtjepdlmcombmcaaGreatDoor.Lx

/- The shelf's contracts at this dump: chosen declarations of what the kit's lay-plain tool has written for this seat, each unchanged; those that this claim does not reach are left out. -/
namespace Go.Proofs.YtjepdlmcombmcaaGreatDoor
open Go.Shelf
def Tryz.laysM246_ren : Go.Shelf.Ren := ⟨fun | 246 => 169 | 283 => 172 | 284 => 173 | 285 => 174 | 286 => 175 | 129 => 177 | 317 => 176 | 318 => 178 | 319 => 179 | 320 => 180 | 337 => 181 | 338 => 182 | n => n, fun | 2 => 2 | 3 => 3 | 9 => 9 | 4 => 4 | 171 => 279 | 0 => 0 | 53 => 30 | 37 => 50 | 5 => 5 | 173 => 282 | 212 => 285 | 51 => 197 | 20 => 20 | 213 => 286 | 46 => 226 | 232 => 289 | 233 => 290 | n => n, fun | 17 => 8 | 18 => 9 | 19 => 10 | n => n⟩
def Tryz.laysM243_ren : Go.Shelf.Ren := ⟨fun | 243 => 159 | 246 => 169 | 283 => 172 | 284 => 173 | 285 => 174 | 286 => 175 | 129 => 177 | 317 => 176 | 318 => 178 | 319 => 179 | 320 => 180 | 337 => 181 | 338 => 182 | n => n, fun | 3 => 3 | 9 => 9 | 2 => 2 | 4 => 4 | 171 => 279 | 0 => 0 | 53 => 30 | 37 => 50 | 5 => 5 | 173 => 282 | 212 => 285 | 51 => 197 | 20 => 20 | 213 => 286 | 46 => 226 | 232 => 289 | 233 => 290 | n => n, fun | 17 => 8 | 18 => 9 | 19 => 10 | n => n⟩
def Tryz.laysM171_ren : Go.Shelf.Ren := ⟨fun | 171 => 141 | 243 => 159 | 246 => 169 | 283 => 172 | 284 => 173 | 285 => 174 | 286 => 175 | 129 => 177 | 317 => 176 | 318 => 178 | 319 => 179 | 320 => 180 | 337 => 181 | 338 => 182 | n => n, fun | 3 => 3 | 9 => 9 | 2 => 2 | 4 => 4 | 171 => 279 | 0 => 0 | 53 => 30 | 37 => 50 | 5 => 5 | 173 => 282 | 212 => 285 | 51 => 197 | 20 => 20 | 213 => 286 | 46 => 226 | 232 => 289 | 233 => 290 | n => n, fun | 17 => 8 | 18 => 9 | 19 => 10 | n => n⟩
theorem Tryz.laysM171 : Go.Proofs.LaysM.n171 Tryz.prog Tryz.laysM171_ren := {
  mixed := by kernel_rfl
  f129 := Tryz.func177.trans (congrArg some (by kernel_rfl))
  f171 := Tryz.func141.trans (congrArg some (by kernel_rfl))
  f243 := Tryz.func159.trans (congrArg some (by kernel_rfl))
  f246 := Tryz.func169.trans (congrArg some (by kernel_rfl))
  f283 := Tryz.func172.trans (congrArg some (by kernel_rfl))
  f284 := Tryz.func173.trans (congrArg some (by kernel_rfl))
  f285 := Tryz.func174.trans (congrArg some (by kernel_rfl))
  f286 := Tryz.func175.trans (congrArg some (by kernel_rfl))
  f317 := Tryz.func176.trans (congrArg some (by kernel_rfl))
  f318 := Tryz.func178.trans (congrArg some (by kernel_rfl))
  f319 := Tryz.func179.trans (congrArg some (by kernel_rfl))
  f320 := Tryz.func180.trans (congrArg some (by kernel_rfl))
  f337 := Tryz.func181.trans (congrArg some (by kernel_rfl))
  f338 := Tryz.func182.trans (congrArg some (by kernel_rfl))
  t0 := Tryz.underlying0
  a0 := Tryz.isAgg0
  z0 := Tryz.sizeOf0
  v0 := Tryz.zeroValue0
  t2 := Tryz.underlying2
  a2 := Tryz.isAgg2
  z2 := Tryz.sizeOf2
  v2 := Tryz.zeroValue2
  t3 := Tryz.underlying3
  a3 := Tryz.isAgg3
  z3 := Tryz.sizeOf3
  v3 := Tryz.zeroValue3
  t4 := Tryz.underlying4
  a4 := Tryz.isAgg4
  z4 := Tryz.sizeOf4
  v4 := Tryz.zeroValue4
  t5 := Tryz.underlying5
  a5 := Tryz.isAgg5
  z5 := Tryz.sizeOf5
  v5 := Tryz.zeroValue5
  t9 := Tryz.underlying9
  a9 := Tryz.isAgg9
  z9 := Tryz.sizeOf9
  v9 := Tryz.zeroValue9
  t20 := Tryz.underlying20
  a20 := Tryz.isAgg20
  z20 := Tryz.sizeOf20
  v20 := Tryz.zeroValue20
  t37 := Tryz.underlying50
  a37 := Tryz.isAgg50
  z37 := Tryz.sizeOf50
  v37 := Tryz.zeroValue50
  t46 := Tryz.underlying226
  a46 := Tryz.isAgg226
  z46 := Tryz.sizeOf226
  v46 := Tryz.zeroValue226
  t51 := Tryz.underlying197
  a51 := Tryz.isAgg197
  z51 := Tryz.sizeOf197
  v51 := Tryz.zeroValue197
  t53 := Tryz.underlying30
  a53 := Tryz.isAgg30
  z53 := Tryz.sizeOf30
  v53 := Tryz.zeroValue30
  t171 := Tryz.underlying279
  a171 := Tryz.isAgg279
  z171 := Tryz.sizeOf279
  v171 := Tryz.zeroValue279
  t173 := Tryz.underlying282
  a173 := Tryz.isAgg282
  z173 := Tryz.sizeOf282
  v173 := Tryz.zeroValue282
  t212 := Tryz.underlying285
  a212 := Tryz.isAgg285
  z212 := Tryz.sizeOf285
  v212 := Tryz.zeroValue285
  t213 := Tryz.underlying286
  a213 := Tryz.isAgg286
  z213 := Tryz.sizeOf286
  t232 := Tryz.underlying289
  a232 := Tryz.isAgg289
  z232 := Tryz.sizeOf289
  v232 := Tryz.zeroValue289
  t233 := Tryz.underlying290
  a233 := Tryz.isAgg290
  z233 := Tryz.sizeOf290
  v233 := Tryz.zeroValue290
  g17 := by kernel_rfl
  g18 := by kernel_rfl
  g19 := by kernel_rfl
  i0 := by kernel_rfl
  i2 := by kernel_rfl
  i3 := by kernel_rfl
  i4 := by kernel_rfl
  i5 := by kernel_rfl
  i9 := by kernel_rfl
  i20 := by kernel_rfl
  i37 := by kernel_rfl
  i46 := by kernel_rfl
  i51 := by kernel_rfl
  i53 := by kernel_rfl
  i171 := by kernel_rfl
  i173 := by kernel_rfl
  i212 := by kernel_rfl
  i232 := by kernel_rfl
  i233 := by kernel_rfl
  m17 := by kernel_rfl
  m18 := by kernel_rfl
  m19 := by kernel_rfl }
open Go.RowKit Go.Sort Go.Lib in
/-- strconv.Itoa: "Itoa is equivalent to FormatInt(int64(i), 10).": i's DECIMAL NUMERAL ('Lib.itoa': a '-' where i is negative, then the digits), FOR EVERY int. The world behind the call: the world before it, new blocks behind the heap (the library's 'var a [24]byte'), draws. (LAID: no walk: one application.) -/
theorem Tryz.strconv_Itoa (n : Int) (h0 : -9223372036854775808 ≤ n) (h1 : n ≤ 9223372036854775807) (w : World) (htab : Lib.TabIs Tryz.prog w "internal/strconv.uint64pow10" .u64 Lib.pow10Tab) :
    Calls Tryz.prog 141 #[.int .i64 n] w fun e w' => e = .returned (.string ⟨(Lib.itoa n).toArray⟩) ∧ ∃ k os, w' = grow (w.drewN k) os := Any.strconv_Itoa Tryz.laysM171 n h0 h1 w htab
def Tryz.laysM324_ren : Go.Shelf.Ren := ⟨fun | 324 => 168 | n => n, fun | 20 => 20 | 4 => 4 | 75 => 56 | 0 => 0 | 80 => 207 | 9 => 9 | n => n, fun | 14 => 4 | n => n⟩
def Tryz.laysM178_ren : Go.Shelf.Ren := ⟨fun | 178 => 124 | 251 => 139 | 252 => 140 | 181 => 156 | 184 => 157 | 290 => 158 | 324 => 168 | n => n, fun | 130 => 246 | 9 => 9 | 3 => 3 | 75 => 56 | 0 => 0 | 93 => 220 | 91 => 218 | 131 => 75 | 4 => 4 | 37 => 50 | 20 => 20 | 80 => 207 | 5 => 5 | n => n, fun | 14 => 4 | n => n⟩
theorem Tryz.laysM178 : Go.Proofs.LaysM.n178 Tryz.prog Tryz.laysM178_ren := {
  mixed := by kernel_rfl
  f178 := Tryz.func124.trans (congrArg some (by kernel_rfl))
  f181 := Tryz.func156.trans (congrArg some (by kernel_rfl))
  f184 := Tryz.func157.trans (congrArg some (by kernel_rfl))
  f251 := Tryz.func139.trans (congrArg some (by kernel_rfl))
  f252 := Tryz.func140.trans (congrArg some (by kernel_rfl))
  f290 := Tryz.func158.trans (congrArg some (by kernel_rfl))
  f324 := Tryz.func168.trans (congrArg some (by kernel_rfl))
  t0 := Tryz.underlying0
  a0 := Tryz.isAgg0
  z0 := Tryz.sizeOf0
  v0 := Tryz.zeroValue0
  t3 := Tryz.underlying3
  a3 := Tryz.isAgg3
  z3 := Tryz.sizeOf3
  v3 := Tryz.zeroValue3
  t4 := Tryz.underlying4
  a4 := Tryz.isAgg4
  z4 := Tryz.sizeOf4
  v4 := Tryz.zeroValue4
  t9 := Tryz.underlying9
  a9 := Tryz.isAgg9
  z9 := Tryz.sizeOf9
  v9 := Tryz.zeroValue9
  t20 := Tryz.underlying20
  a20 := Tryz.isAgg20
  z20 := Tryz.sizeOf20
  v20 := Tryz.zeroValue20
  t37 := Tryz.underlying50
  a37 := Tryz.isAgg50
  z37 := Tryz.sizeOf50
  v37 := Tryz.zeroValue50
  t75 := Tryz.underlying56
  a75 := Tryz.isAgg56
  z75 := Tryz.sizeOf56
  v75 := Tryz.zeroValue56
  t91 := Tryz.underlying218
  a91 := Tryz.isAgg218
  z91 := Tryz.sizeOf218
  v91 := Tryz.zeroValue218
  t93 := Tryz.underlying220
  a93 := Tryz.isAgg220
  z93 := Tryz.sizeOf220
  v93 := Tryz.zeroValue220
  t130 := Tryz.underlying246
  a130 := Tryz.isAgg246
  z130 := Tryz.sizeOf246
  v130 := Tryz.zeroValue246
  t131 := Tryz.underlying75
  a131 := Tryz.isAgg75
  z131 := Tryz.sizeOf75
  v131 := Tryz.zeroValue75
  g14 := by kernel_rfl
  t5 := Tryz.underlying5
  a5 := Tryz.isAgg5
  z5 := Tryz.sizeOf5
  v5 := Tryz.zeroValue5
  t80 := Tryz.underlying207
  a80 := Tryz.isAgg207
  z80 := Tryz.sizeOf207
  v80 := Tryz.zeroValue207
  i0 := by kernel_rfl
  i3 := by kernel_rfl
  i4 := by kernel_rfl
  i5 := by kernel_rfl
  i9 := by kernel_rfl
  i20 := by kernel_rfl
  i37 := by kernel_rfl
  i75 := by kernel_rfl
  i80 := by kernel_rfl
  i91 := by kernel_rfl
  i93 := by kernel_rfl
  i130 := by kernel_rfl
  i131 := by kernel_rfl
  m14 := by kernel_rfl }
open Go.RowKit in
/-- (*bytes.Buffer).WriteString: "WriteString appends the contents of s to the buffer, growing the buffer as needed. The return value n is the length of s; err is always nil." (LAID: no walk: one application.) -/
theorem Tryz.Buffer_WriteString (B b : Nat) (bs : List Value) (s : ByteArray) (w : World) (h : Lib.IsBuffer 220 5 B b bs w) (hBw : B ≤ w.heap.size) (h1 : ∀ v ∈ bs, v.oneCell' = true) (hlim : bs.length + s.size ≤ 140737488355328) :
    Calls Tryz.prog 124 #[.pointer (some ⟨b, 0, none⟩), .string s] w fun e w' => e = .returned (.tuple #[.int .i64 s.size, .nilIface]) ∧ Lib.IsBuffer 220 5 B b (bs ++ Lib.byteCells s.data.toList) w' ∧ Below B w w' := Any.Buffer_WriteString Tryz.laysM178 B b bs s w h hBw h1 hlim
def Tryz.laysM182_ren : Go.Shelf.Ren := ⟨fun | 182 => 127 | n => n, fun | 130 => 246 | 9 => 9 | 4 => 4 | 0 => 0 | 93 => 220 | 37 => 50 | 3 => 3 | 91 => 218 | 5 => 5 | n => n, fun | n => n⟩
theorem Tryz.laysM182 : Go.Proofs.LaysM.n182 Tryz.prog Tryz.laysM182_ren := {
  mixed := by kernel_rfl
  f182 := Tryz.func127.trans (congrArg some (by kernel_rfl))
  t0 := Tryz.underlying0
  a0 := Tryz.isAgg0
  z0 := Tryz.sizeOf0
  v0 := Tryz.zeroValue0
  t3 := Tryz.underlying3
  a3 := Tryz.isAgg3
  z3 := Tryz.sizeOf3
  v3 := Tryz.zeroValue3
  t4 := Tryz.underlying4
  a4 := Tryz.isAgg4
  z4 := Tryz.sizeOf4
  v4 := Tryz.zeroValue4
  t9 := Tryz.underlying9
  a9 := Tryz.isAgg9
  z9 := Tryz.sizeOf9
  v9 := Tryz.zeroValue9
  t37 := Tryz.underlying50
  a37 := Tryz.isAgg50
  z37 := Tryz.sizeOf50
  v37 := Tryz.zeroValue50
  t93 := Tryz.underlying220
  a93 := Tryz.isAgg220
  z93 := Tryz.sizeOf220
  v93 := Tryz.zeroValue220
  t130 := Tryz.underlying246
  a130 := Tryz.isAgg246
  z130 := Tryz.sizeOf246
  v130 := Tryz.zeroValue246
  t5 := Tryz.underlying5
  a5 := Tryz.isAgg5
  z5 := Tryz.sizeOf5
  v5 := Tryz.zeroValue5
  t91 := Tryz.underlying218
  a91 := Tryz.isAgg218
  z91 := Tryz.sizeOf218
  v91 := Tryz.zeroValue218
  i0 := by kernel_rfl
  i3 := by kernel_rfl
  i4 := by kernel_rfl
  i5 := by kernel_rfl
  i9 := by kernel_rfl
  i37 := by kernel_rfl
  i91 := by kernel_rfl
  i93 := by kernel_rfl
  i130 := by kernel_rfl }
open Go.RowKit in
/-- (*bytes.Buffer).String: "String returns the contents of the unread portion of the buffer as a string.": THE BYTES THAT WERE WRITTEN. The world is as it was but for the count of draws (the statement has two reads: its order is drawn). (LAID: no walk: one application.) -/
theorem Tryz.Buffer_String (B b : Nat) (l : List UInt8) (w : World) (h : Lib.IsBuffer 220 5 B b (Lib.byteCells l) w) :
    Calls Tryz.prog 127 #[.pointer (some ⟨b, 0, none⟩)] w fun e w' => e = .returned (.string ⟨l.toArray⟩) ∧ ∃ n, w' = w.drewN n := Any.Buffer_String Tryz.laysM182 B b l w h
def Tryz.lays105_ren : Go.Shelf.Ren := ⟨fun | 105 => 126 | 212 => 142 | 99 => 143 | 165 => 144 | 166 => 145 | 170 => 146 | 169 => 147 | 263 => 160 | 264 => 161 | 206 => 162 | 240 => 163 | 241 => 164 | 276 => 170 | 277 => 171 | n => n, fun | 9 => 9 | 3 => 3 | 4 => 4 | 20 => 20 | 0 => 0 | 46 => 226 | 109 => 249 | 5 => 5 | 72 => 253 | 76 => 221 | 51 => 197 | 146 => 264 | 53 => 30 | 148 => 266 | 70 => 251 | 37 => 50 | 75 => 56 | 127 => 268 | 164 => 126 | 80 => 207 | n => n, fun | n => n⟩
theorem Tryz.lays105 : Go.Proofs.Lays.n105 Tryz.prog Tryz.lays105_ren := {
  mixed := by kernel_rfl
  f99 := Tryz.func143.trans (congrArg some (by kernel_rfl))
  f105 := Tryz.func126.trans (congrArg some (by kernel_rfl))
  f165 := Tryz.func144.trans (congrArg some (by kernel_rfl))
  f166 := Tryz.func145.trans (congrArg some (by kernel_rfl))
  f169 := Tryz.func147.trans (congrArg some (by kernel_rfl))
  f170 := Tryz.func146.trans (congrArg some (by kernel_rfl))
  f206 := Tryz.func162.trans (congrArg some (by kernel_rfl))
  f212 := Tryz.func142.trans (congrArg some (by kernel_rfl))
  f240 := Tryz.func163.trans (congrArg some (by kernel_rfl))
  f241 := Tryz.func164.trans (congrArg some (by kernel_rfl))
  f263 := Tryz.func160.trans (congrArg some (by kernel_rfl))
  f264 := Tryz.func161.trans (congrArg some (by kernel_rfl))
  f276 := Tryz.func170.trans (congrArg some (by kernel_rfl))
  f277 := Tryz.func171.trans (congrArg some (by kernel_rfl))
  t0 := Tryz.underlying0
  a0 := Tryz.isAgg0
  z0 := Tryz.sizeOf0
  v0 := Tryz.zeroValue0
  t3 := Tryz.underlying3
  a3 := Tryz.isAgg3
  z3 := Tryz.sizeOf3
  v3 := Tryz.zeroValue3
  t4 := Tryz.underlying4
  a4 := Tryz.isAgg4
  z4 := Tryz.sizeOf4
  v4 := Tryz.zeroValue4
  t5 := Tryz.underlying5
  a5 := Tryz.isAgg5
  z5 := Tryz.sizeOf5
  v5 := Tryz.zeroValue5
  t9 := Tryz.underlying9
  a9 := Tryz.isAgg9
  z9 := Tryz.sizeOf9
  v9 := Tryz.zeroValue9
  t20 := Tryz.underlying20
  a20 := Tryz.isAgg20
  z20 := Tryz.sizeOf20
  v20 := Tryz.zeroValue20
  t37 := Tryz.underlying50
  a37 := Tryz.isAgg50
  z37 := Tryz.sizeOf50
  v37 := Tryz.zeroValue50
  t46 := Tryz.underlying226
  a46 := Tryz.isAgg226
  z46 := Tryz.sizeOf226
  v46 := Tryz.zeroValue226
  t51 := Tryz.underlying197
  a51 := Tryz.isAgg197
  z51 := Tryz.sizeOf197
  v51 := Tryz.zeroValue197
  t53 := Tryz.underlying30
  a53 := Tryz.isAgg30
  z53 := Tryz.sizeOf30
  v53 := Tryz.zeroValue30
  t70 := Tryz.underlying251
  a70 := Tryz.isAgg251
  z70 := Tryz.sizeOf251
  v70 := Tryz.zeroValue251
  t72 := Tryz.underlying253
  a72 := Tryz.isAgg253
  z72 := Tryz.sizeOf253
  v72 := Tryz.zeroValue253
  t75 := Tryz.underlying56
  a75 := Tryz.isAgg56
  z75 := Tryz.sizeOf56
  v75 := Tryz.zeroValue56
  t76 := Tryz.underlying221
  a76 := Tryz.isAgg221
  z76 := Tryz.sizeOf221
  v76 := Tryz.zeroValue221
  t109 := Tryz.underlying249
  a109 := Tryz.isAgg249
  z109 := Tryz.sizeOf249
  v109 := Tryz.zeroValue249
  t127 := Tryz.underlying268
  a127 := Tryz.isAgg268
  z127 := Tryz.sizeOf268
  v127 := Tryz.zeroValue268
  t146 := Tryz.underlying264
  a146 := Tryz.isAgg264
  z146 := Tryz.sizeOf264
  v146 := Tryz.zeroValue264
  t148 := Tryz.underlying266
  a148 := Tryz.isAgg266
  z148 := Tryz.sizeOf266
  v148 := Tryz.zeroValue266
  t164 := Tryz.underlying126
  a164 := Tryz.isAgg126
  z164 := Tryz.sizeOf126
  v164 := Tryz.zeroValue126 }
theorem Tryz.Builder_Extra_105 : Builder.Extra Tryz.prog Tryz.lays105_ren := {
  sizeBuilder := by kernel_rfl
  liesBuilder := by kernel_rfl
  t5 := Tryz.underlying5
  a5 := Tryz.isAgg5
  z5 := Tryz.sizeOf5
  v5 := Tryz.zeroValue5
  infoByte := by kernel_rfl
  cellsByte := by kernel_rfl
  sizeByte := by kernel_rfl
  neB5 := by decide }
open Go.RowKit Go.Lib in
/-- **strings.Repeat: count ≥ 0, the result within one allocation: count copies of s.** (LAID: no walk: one application.) -/
theorem Tryz.strings_Repeat (s : ByteArray) (c : Nat) (w : World) (hc : c ≤ 9223372036854775807) (hlen : s.size * c ≤ 140737488355328) :
    Calls Tryz.prog 126 #[.string s, .int .i64 c] w fun e w' => e = .returned (.string ⟨(Lib.repeatL s.data.toList c).toArray⟩) ∧ Below w.heap.size w w' := Any.strings_Repeat Tryz.lays105 Tryz.Builder_Extra_105 s c w hc hlen
end Go.Proofs.YtjepdlmcombmcaaGreatDoor

/- A number in a field of three: what zzPad leaves, as far as its length goes. Conditions: the number is small; the table of powers lies. -/
namespace Go.Proofs.YtjepdlmcombmcaaGreatDoor.Lx
open Go.RowKit Go.Proofs.YtjepdlmcombmcaaGreatDoorW.PrintWords

/-- The table of powers of ten lies as the library lays it. -/
def Pow10 (w : World) : Prop := Lib.TabIs Tryz.prog w "internal/strconv.uint64pow10" .u64 Lib.pow10Tab
theorem pad_grow {w w1 : World} (h : ∃ k os, w1 = Go.Sort.grow (w.drewN k) os) : Below w.heap.size w w1 := by
  obtain ⟨k, os, rfl⟩ := h
  refine ⟨rfl, rfl, rfl, ?_, fun i hi => ?_⟩
  · show w.heap.size ≤ (w.heap ++ os).size
    rw [Array.size_append]
    omega
  · show (w.heap ++ os)[i]? = w.heap[i]?
    rw [Array.getElem?_append_left hi]

theorem itoa_c (n : Int) (w : World) (h0 : 0 ≤ n) (h1 : n ≤ 1000002) (htab : Pow10 w) :
    Calls Tryz.prog 141 #[.int .i64 n] w fun e w' => (∃ t : ByteArray, e = .returned (.string t) ∧ t.size ≤ 21) ∧ Below w.heap.size w w' := by
  refine (YtjepdlmcombmcaaGreatDoor.Tryz.strconv_Itoa n (by omega) (by omega) w htab).mono ?_
  rintro e w1 ⟨rfl, hg⟩
  have hlen := Lib.itoa_length_le n (by omega) (by omega)
  refine ⟨⟨_, rfl, ?_⟩, pad_grow hg⟩
  show (Lib.itoa n).toArray.size ≤ 21
  simpa using hlen

theorem zzPad_c (n : Int) (w : World) (h0 : 0 ≤ n) (h1 : n ≤ 1000002) (htab : Pow10 w) :
    Calls Tryz.prog 125 #[.int .i64 n] w fun e w' => (∃ t : ByteArray, e = .returned (.string t) ∧ t.size ≤ 24) ∧ Below w.heap.size w w' := by
  go_enter Tryz.func125, Tryz.ntmps125
  go_wp2_with (first
    | (go_at_call 141; (with_reducible refine (itoa_c n _ h0 h1 htab).mono ?_); rintro e w1 ⟨⟨t0, rfl, hz⟩, hb⟩))
  have HZ := Aside0.mk hz
  go_loopg [3] 4 (fun kq v3 wr => ∃ t : ByteArray, v3 = .string t ∧ Aside0 (t.size ≤ 24 ∧ 3 - t.size < kq) ∧ wr = w1)
  case atStart => exact ⟨t0, rfl, ⟨by omega, by omega⟩, rfl⟩
  case round =>
    obtain ⟨t, rfl, HA, rfl⟩ := hrel
    by_cases h3 : (t.size : Int) < 3
    · have u1 : ¬ 9223372036854775807 < 1 + t.size := by omega
      have hs : ((⟨#[32]⟩ : ByteArray) ++ t).size = 1 + t.size := by rw [ByteArray.size_append]; rfl
      go_wp2
      go_roundg (3 - (1 + t.size) + 1)
      case measure => have := HA.out.2; omega
      case rel => exact ⟨_, rfl, ⟨by rw [hs]; omega, by rw [hs]; omega⟩, rfl⟩
    · go_wp2
      go_ret
      exact ⟨⟨t, rfl, HA.out.1⟩, hb⟩

/-- The call's own buffer at block b holds at most n bytes. -/
def Buf (b B : Nat) (w : World) (n : Nat) : Prop := ∃ l : List UInt8, Lib.IsBuffer 220 5 B b (Lib.byteCells l) w ∧ l.length ≤ n
theorem Buf.first (w : World) : Buf w.heap.size w.heap.size (w.alloc (.cells #[.slice none 0 0, .int .i64 0, .int .i8 0] 220)) 0 := ⟨[], Lib.fresh_isBuffer 220 5 w, Nat.le_refl _⟩
theorem Buf.below {b B : Nat} {w w1 : World} {n : Nat} (h : Buf b B w n) (hb : Below w.heap.size w w1) : Buf b B w1 n := by
  obtain ⟨l, ⟨h1, v, lr, h2, h3, h4⟩, h5⟩ := h
  refine ⟨l, ⟨h1, v, lr, blk_below h2 hb, own_other h3 (grown_of_below hb Option.none) ?_, h4⟩, h5⟩
  cases hv : v.ownBlock with
  | none => exact .inl rfl
  | some k => exact .inr (by simp)
theorem Buf.drewN {b B : Nat} {w : World} {n : Nat} (h : Buf b B w n) (k : Nat) : Buf b B (w.drewN k) n := h
theorem writeS_c (b B n : Nat) (s : ByteArray) (w : World) (h : Buf b B w n) (hB : B ≤ w.heap.size) (hn : n + s.size ≤ 1000000000) :
    Calls Tryz.prog 124 #[.pointer (some ⟨b, 0, none⟩), .string s] w fun e w' => (∃ k : Int, e = .returned (.tuple #[.int .i64 k, .nilIface])) ∧ Buf b B w' (n + s.size) ∧ Below B w w' := by
  obtain ⟨l, h1, h2⟩ := h
  have hl : (Lib.byteCells l).length = l.length := Lib.byteCells_length l
  refine (YtjepdlmcombmcaaGreatDoor.Tryz.Buffer_WriteString B b (Lib.byteCells l) s w h1 hB (Lib.byteCells_one l) (by rw [hl]; omega)).mono ?_
  rintro e w' ⟨rfl, hb, hbel⟩
  refine ⟨⟨_, rfl⟩, ⟨l ++ s.data.toList, ?_, ?_⟩, hbel⟩
  · have e1 : Lib.byteCells (l ++ s.data.toList) = Lib.byteCells l ++ Lib.byteCells s.data.toList := by simp [Lib.byteCells]
    rw [e1]
    exact hb
  · rw [List.length_append]
    have : s.data.toList.length = s.size := rfl
    omega
theorem bufString_c (b B n : Nat) (w : World) (h : Buf b B w n) :
    Calls Tryz.prog 127 #[.pointer (some ⟨b, 0, none⟩)] w fun e w' => (∃ t : ByteArray, e = .returned (.string t)) ∧ ∃ k, w' = w.drewN k := by
  obtain ⟨l, h1, h2⟩ := h
  refine (YtjepdlmcombmcaaGreatDoor.Tryz.Buffer_String B b l w h1).mono ?_
  rintro e w' ⟨rfl, hk⟩
  exact ⟨⟨_, rfl⟩, hk⟩
theorem repeat_c (s : ByteArray) (c : Int) (w : World) (h0 : 0 ≤ c) (h1 : c ≤ 1000002) (hs : s.size = 1) :
    Calls Tryz.prog 126 #[.string s, .int .i64 c] w fun e w' => (∃ t : ByteArray, e = .returned (.string t) ∧ t.size ≤ 1000002) ∧ Below w.heap.size w w' := by
  obtain ⟨n, rfl⟩ := Int.eq_ofNat_of_zero_le h0
  refine (YtjepdlmcombmcaaGreatDoor.Tryz.strings_Repeat s n w (by omega) (by rw [hs]; omega)).mono ?_
  rintro e w' ⟨rfl, hb⟩
  refine ⟨⟨_, rfl, ?_⟩, hb⟩
  show (Lib.repeatL s.data.toList n).toArray.size ≤ 1000002
  have h2 := Lib.repeatL_length s.data.toList n
  have h3 : s.data.toList.length = s.size := rfl
  rw [h3, hs, Nat.mul_one] at h2
  simp only [List.size_toArray]
  omega
end Go.Proofs.YtjepdlmcombmcaaGreatDoor.Lx
