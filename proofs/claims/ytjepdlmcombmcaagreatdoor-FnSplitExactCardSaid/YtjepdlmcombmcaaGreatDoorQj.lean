/- SplitRawStatements: what it returns. Conditions: the text is such as is told; the table of powers lies. -/
import Derived.Test.YtjepdlmcombmcaaGreatDoorQi
import Derived.Test.YtjepdlmcombmcaaGreatDoorQd
namespace Go.Proofs.YtjepdlmcombmcaaGreatDoor.Lx
open Go.RowKit Go.Proofs.YtjepdlmcombmcaaGreatDoorW.PrintWords

def stmOf (s : ByteArray) (q : Int × Int) : Int × Int × ByteArray := (q.1, q.2, s.extract q.1.toNat q.2.toNat)
/-- The statements that are cut already, and those that are still to come. -/
def joinS (s : ByteArray) (l : List (Int × Int × ByteArray)) (o : Option (List (Int × Int))) : Option (List (Int × Int × ByteArray)) := match o with
  | none => none
  | some m => some (l ++ m.map (stmOf s))
def fixS (l : List (Int × Int × ByteArray)) : List (Int × Int × ByteArray) := if l = [] then [(0, 0, ⟨#[]⟩)] else l
theorem fixS_app (l : List (Int × Int × ByteArray)) (q : Int × Int × ByteArray) : fixS (l ++ [q]) = l ++ [q] := by
  unfold fixS
  rw [if_neg (by simp)]
theorem fixS_cons (l : List (Int × Int × ByteArray)) (q : Int × Int × ByteArray) : fixS (q :: l) = q :: l := by
  unfold fixS
  rw [if_neg (by simp)]
theorem ComAt.none_of {w : World} {base : Nat} {v : Value} {n : Nat} (h : ComAt w base v n none) : ∃ A C, v = .slice A 0 C := by
  obtain ⟨A, C, hv⟩ := h.shape
  obtain ⟨xs, _, ⟨h0, _⟩ | ⟨_, c0, hc, _⟩⟩ := h
  · exact ⟨A, C, by rw [hv, h0]⟩
  · cases hc
theorem ComAt.some_of {w : World} {base : Nat} {v : Value} {n : Nat} {c : Int} (h : ComAt w base v n (some c)) : ∃ g n1 cap, v = .slice (some ⟨g, 0, none⟩) (n1 + 1) cap ∧ w.cell? ⟨g, 2, none⟩ = some (.int .i64 c) := by
  obtain ⟨xs, ⟨hl, hr⟩, ⟨_, hc⟩ | ⟨h0, c0, hc, hx⟩⟩ := h
  · cases hc
  · injection hc with hc
    subst hc
    rcases hr with ⟨_, hn⟩ | ⟨g, cap, cur, hv, _, hh, _, _, _, ht⟩
    · omega
    · refine ⟨g, n - 1, cap, by rw [hv]; congr 1; omega, ?_⟩
      rw [cell_of_row w g 2 cur 97 (0, 0) hh, ← Array.getElem?_toList, ← hx, ← ht, List.getElem?_take_of_lt (by omega)]
theorem PRow.one (W : World) : PRow ((W.alloc (.cells #[.int .i64 0, .int .i64 0, .string ⟨#[]⟩] 73)).alloc (.cells #[.pointer (some ⟨W.heap.size, 0, none⟩)] 71)) W.heap.size (.slice (some ⟨W.heap.size + 1, 0, none⟩) 1 1) (fixS []) := by
  have hW1 : (W.alloc (.cells #[.int .i64 0, .int .i64 0, .string ⟨#[]⟩] 73)).heap.size = W.heap.size + 1 := by simp
  have h1 := heap_alloc_new (W.alloc (.cells #[.int .i64 0, .int .i64 0, .string ⟨#[]⟩] 73)) (.cells #[.pointer (some ⟨W.heap.size, 0, none⟩)] 71)
  rw [hW1] at h1
  refine ⟨[W.heap.size], rfl, ⟨rfl, .inr ⟨W.heap.size + 1, 1, _, rfl, by omega, h1, Nat.le_refl _, by simp [maxLen], rfl, rfl⟩⟩, fun i g q hg hq => ?_⟩
  cases i with
  | zero =>
    have e1 : g = W.heap.size := by simpa using hg.symm
    have e2 : q = (0, 0, ⟨#[]⟩) := by simpa [fixS] using hq.symm
    subst e1 e2
    exact ⟨Nat.le_refl _, fun he => (by simp [Value.ownBlock] at he), blk_alloc (heap_alloc_new W _) _⟩
  | succ i => simp at hg
theorem IsF0.grown {w w1 : World} {fb : Nat} {s : ByteArray} {row : Option Nat} (h : IsF0 w fb s) (hg : w.grownBy w1 row) (hn : some fb ≠ row) : IsF0 w1 fb s := by
  obtain ⟨path, hf⟩ := h
  exact ⟨path, (hg.block fb (blk_lt hf) hn).trans hf⟩
/-- The rounds' invariant. -/
structure SInv (w wr : World) (s : ByteArray) (x : St) (v : Value) (first : Int) (l : List (Int × Int × ByteArray)) (R : Option (List (Int × Int × ByteArray))) (n : Nat) : Prop where
  below : Below w.heap.size w wr
  sz : w.heap.size + 2 ≤ wr.heap.size
  lx : Lx0 wr (w.heap.size + 1) w.heap.size s x
  row : PRow wr (w.heap.size + 2) v l
  dot : x.dot = true → kd x.kind.toList = .dot
  p0 : 0 ≤ x.pos
  p1 : x.pos ≤ (s.size : Int)
  f0 : 0 ≤ first
  f1 : first ≤ x.pos
  semi : kd x.kind.toList = .semi → first ≤ x.tp ∧ x.tp ≤ (s.size : Int)
  join : joinS s l (isplit s n (decide (kd x.kind.toList = .semi)) x.tp first x.pos (kd x.kind.toList) x.dot) = R
  eof : kd x.kind.toList = .eof → 1 ≤ n ∧ x.pos = (s.size : Int) ∧ x.dot = false
  fuel : kd x.kind.toList ≠ .eof → ((s.size : Int) - x.pos).toNat + 2 ≤ n
  len : l.length + n ≤ 10000
section
variable {w wr w4 : World} {s : ByteArray} {x y : St} {v v' : Value} {first : Int} {l : List (Int × Int × ByteArray)} {R : Option (List (Int × Int × ByteArray))} {n : Nat} {t : Tk}
theorem SInv.succ (h : SInv w wr s x v first l R n) : ∃ k, n = k + 1 := by
  by_cases he : kd x.kind.toList = .eof
  · have := (h.eof he).1
    exact ⟨n - 1, by omega⟩
  · have := h.fuel he
    exact ⟨n - 1, by omega⟩
theorem SInv.fault (h : SInv w wr s x v first l R (n + 1)) (hst : step s (kd x.kind.toList) x.dot x.pos = none) : R = none := by
  rw [← h.join]
  simp only [isplit, hst]
  rfl
theorem SInv.stepA (h : SInv w wr s x v first l R (n + 1)) (hs : kd x.kind.toList = .semi) (hst : step s (kd x.kind.toList) x.dot x.pos = some t) (hB : Below w.heap.size w w4) (hsz : w.heap.size + 2 ≤ w4.heap.size) (hX : Lx0 w4 (w.heap.size + 1) w.heap.size s y)
    (hr : PRow w4 (w.heap.size + 2) v' (l ++ [(first, x.tp, s.extract first.toNat x.tp.toNat)])) (hk : kd y.kind.toList = t.kd) (ht : y.tp = t.pos) (he : y.pos = t.e) (hd : y.dot = dotOf (kd x.kind.toList) t.kd) :
    SInv w w4 s y v' (t.com.getD t.pos) (l ++ [(first, x.tp, s.extract first.toNat x.tp.toNat)]) R n := by
  have hm := step_moves s _ _ _ t h.p0 h.p1 hst
  have m1 := hm.pos
  have m2 := hm.le
  have m3 := hm.top
  have p0 := h.p0
  have p1 := h.p1
  have hf := h.fuel (by rw [hs]; decide)
  have hcd : x.pos ≤ t.com.getD t.pos ∧ t.com.getD t.pos ≤ t.pos := by
    cases hc : t.com with
    | none => simp; omega
    | some c => have := hm.com c hc; simp; omega
  refine ⟨hB, hsz, hX, hr, fun h5 => ?_, by omega, by omega, by omega, by omega, fun _ => ⟨by omega, by omega⟩, ?_, fun h5 => ⟨by omega, ?_, ?_⟩, fun h5 => ?_, by have := h.len; simp; omega⟩
  · rw [hd] at h5
    unfold dotOf at h5
    rw [hk]
    simp only [Bool.and_eq_true, decide_eq_true_eq] at h5
    exact h5.1
  · rw [← h.join, hk, ht, he, hd]
    simp only [isplit, hst, decide_eq_true hs, if_true]
    cases isplit s n (decide (t.kd = .semi)) t.pos (t.com.getD t.pos) t.e t.kd (dotOf (kd x.kind.toList) t.kd) with
    | none => rfl
    | some m => simp [joinS, stmOf]
  · rw [hk] at h5
    rw [he]
    exact (hm.fin h5).2
  · rw [hk] at h5
    rw [hd, h5]
    rfl
  · rw [hk] at h5
    have := hm.more h5
    rw [he]
    omega
theorem SInv.notEof (h : SInv w wr s x v first l R (n + 1)) (hst : step s (kd x.kind.toList) x.dot x.pos = some t) (hte : t.kd ≠ .eof) : kd x.kind.toList ≠ .eof := by
  intro he
  obtain ⟨_, h1, h2⟩ := h.eof he
  rw [h1, h2, step_end s _ false rfl] at hst
  injection hst with hst
  rw [← hst] at hte
  exact hte rfl
theorem SInv.stepB (h : SInv w wr s x v first l R (n + 1)) (hs : kd x.kind.toList ≠ .semi) (hst : step s (kd x.kind.toList) x.dot x.pos = some t) (hte : t.kd ≠ .eof) (hB : Below w.heap.size w w4) (hsz : w.heap.size + 2 ≤ w4.heap.size) (hX : Lx0 w4 (w.heap.size + 1) w.heap.size s y)
    (hr : PRow w4 (w.heap.size + 2) v l) (hk : kd y.kind.toList = t.kd) (ht : y.tp = t.pos) (he : y.pos = t.e) (hd : y.dot = dotOf (kd x.kind.toList) t.kd) :
    SInv w w4 s y v first l R n := by
  have hm := step_moves s _ _ _ t h.p0 h.p1 hst
  have m1 := hm.pos
  have m2 := hm.le
  have m3 := hm.top
  have p0 := h.p0
  have p1 := h.p1
  have f0 := h.f0
  have f1 := h.f1
  have hf := h.fuel (h.notEof hst hte)
  have hmo := hm.more hte
  refine ⟨hB, hsz, hX, hr, fun h5 => ?_, by omega, by omega, by omega, by omega, fun _ => ⟨by omega, by omega⟩, ?_, fun h5 => ?_, fun _ => by rw [he]; omega, by have := h.len; omega⟩
  · rw [hd] at h5
    unfold dotOf at h5
    rw [hk]
    simp only [Bool.and_eq_true, decide_eq_true_eq] at h5
    exact h5.1
  · rw [← h.join, hk, ht, he, hd]
    simp only [isplit, hst, decide_eq_false hs, Bool.false_eq_true, if_false, if_neg hte]
  · rw [hk] at h5
    exact absurd h5 hte
theorem SInv.ends (h : SInv w wr s x v first l R (n + 1)) (hs : kd x.kind.toList ≠ .semi) (hst : step s (kd x.kind.toList) x.dot x.pos = some t) (hte : t.kd = .eof) : R = some (if t.pos = first then l else l ++ [(first, t.pos, s.extract first.toNat t.pos.toNat)]) := by
  rw [← h.join]
  simp only [isplit, hst, decide_eq_false hs, Bool.false_eq_true, if_false, hte, if_true]
  split
  · simp [joinS]
  · simp [joinS, stmOf]
end
/-- What SplitRawStatements returns. -/
def SplitE (R : Option (List (Int × Int × ByteArray))) (w : World) (e : Ending) (w' : World) : Prop := match R with
  | none => (∃ g, e = .returned (.tuple #[.slice none 0 0, .iface 86 (.pointer (some ⟨g, 0, none⟩))])) ∧ Below w.heap.size w w'
  | some l => ∃ v B, e = .returned (.tuple #[v, .nilIface]) ∧ Below w.heap.size w w' ∧ w.heap.size ≤ B ∧ PRow w' B v (fixS l)
set_option maxRecDepth 100000 in
set_option maxHeartbeats 8000000 in
theorem splitRaw_c (w : World) (path s : ByteArray) (hT : Txt s) (hPow : Pow10 w) :
    Calls Tryz.prog 26 #[.string path, .string s] w (SplitE (joinS s [] (isplit s (s.size + 2) false 0 0 0 .other false)) w) := by
  have HTOK : Aside0 (TokOk (w.heap.size + 1) w.heap.size s) := ⟨fun W y hX h0 h1 h35 hsp => tok_c W (w.heap.size + 1) w.heap.size y s hX hT h0 h1 h35 hsp⟩
  have hs9 : (s.size : Int) ≤ 5000 := by have := hT.size; omega
  obtain ⟨R, hR⟩ : ∃ R, joinS s [] (isplit s (s.size + 2) false 0 0 0 .other false) = R := ⟨_, rfl⟩
  rw [hR]
  have HR := Aside0.mk hR
  clear hR
  go_enter Tryz.func26, Tryz.ntmps26
  go_wp2
  go_loopg [7, 8] (s.size + 2) (fun kq v7 v8 wr => ∃ (x : St) (v : Value) (first : Int) (l : List (Int × Int × ByteArray)), v7 = v ∧ v8 = .int .i64 first ∧ SInv w wr s x v first l R kq)
  case atStart =>
    have hB : Below w.heap.size w ((w.alloc (.cells #[.string path, .string s, .slice none 0 0] 85)).alloc (.cells #[.pointer (some ⟨w.heap.size, 0, none⟩), .string ⟨#[]⟩, .slice none 0 0, .string ⟨#[]⟩, .string ⟨#[]⟩, .string ⟨#[]⟩, .int .i64 0, .int .i64 0, .int .i64 0, .int .i64 0, .string ⟨#[]⟩, .bool false] 67)) := below_alloc (below_alloc (Below.refl _ _) _) _
    have hW1 : (w.alloc (.cells #[.string path, .string s, .slice none 0 0] 85)).heap.size = w.heap.size + 1 := by simp
    have h1 := heap_alloc_new (w.alloc (.cells #[.string path, .string s, .slice none 0 0] 85)) (.cells #[.pointer (some ⟨w.heap.size, 0, none⟩), .string ⟨#[]⟩, .slice none 0 0, .string ⟨#[]⟩, .string ⟨#[]⟩, .string ⟨#[]⟩, .int .i64 0, .int .i64 0, .int .i64 0, .int .i64 0, .string ⟨#[]⟩, .bool false] 67)
    rw [hW1] at h1
    have hk0 : kd (⟨#[]⟩ : ByteArray).toList = .other := kd_lit [] rfl
    exact ⟨⟨⟨#[]⟩, .slice none 0 0, ⟨#[]⟩, ⟨#[]⟩, ⟨#[]⟩, 0, 0, 0, 0, ⟨#[]⟩, false⟩, _, 0, [], rfl, rfl,
      ⟨hB, by simp, ⟨h1, ⟨path, blk_alloc (heap_alloc_new w _) _⟩, hPow.below hB⟩, PRow.nil _ _, fun h => (by cases h), Int.le_refl _, (by show (0 : Int) ≤ _; omega), Int.le_refl _, Int.le_refl _, fun h => absurd (hk0.symm.trans h) (by decide), (by show joinS s [] (isplit s (s.size + 2) (decide (kd (⟨#[]⟩ : ByteArray).toList = .semi)) 0 0 0 (kd (⟨#[]⟩ : ByteArray).toList) false) = R; rw [hk0]; exact HR.out), fun h => absurd (hk0.symm.trans h) (by decide), fun _ => (by show ((s.size : Int) - 0).toNat + 2 ≤ _; omega), (by show 0 + _ ≤ _; omega)⟩⟩
  case round =>
    obtain ⟨x, v, first, l, rfl, rfl, HS⟩ := hrel
    obtain ⟨n0, hn0⟩ := HS.succ
    have HS1 : SInv w wr s x _ first l R (n0 + 1) := hn0 ▸ HS
    have hX := HS.lx
    have hL := hX.l
    have hPR := HS.row
    obtain ⟨A, C, rfl⟩ := hPR.shape
    have hbsz := HS.sz
    have hl5 : l.length ≤ 100000 := by have := HS.len; omega
    have x0 := HS.p0
    have x1 := HS.p1
    have f0 := HS.f0
    have hdot := HS.dot
    have hB := HS.below
    have c1 := hL.c1
    have c7 := hL.c7
    have hkk := kd_semi x.kind.toList
    by_cases hsm : kd x.kind.toList = .semi
    · obtain ⟨f2, f3⟩ := HS.semi hsm
      have f4 : 0 ≤ x.tp := by omega
      rw [decide_eq_true hsm] at hkk
      go_wp2
      refine wp_region_noPanic ?_
      refine wp_region_held_drew (S := fun W => W.cell? ⟨w.heap.size + 1, 7, none⟩ = some (.int .i64 x.tp)) (by kernel_rfl) hL.c7 (fun hHeld => ?_)
      refine wpAnyH_take (i := 0) (oi := ?oi1) (v := ?v1) ?hi1 (by kernel_rfl) (by kernel_rfl) (by kernel_rfl) (fun _ _ _ h => h) ?hy1 hHeld ?re1
      case hi1 => (simp only [List.getElem?_toArray, List.getElem?_cons_zero]; rfl)
      case hy1 =>
        refine Or.inl ⟨by rfl, ?_⟩
        intro wq hSw
        go_split_ands
        go_simp
        try with_reducible rfl
      (try simp only [Act.put, List.setIfInBounds_toArray, List.set_cons_zero, List.set_cons_succ])
      refine wpAnyH_take (i := 1) (oi := ?oi2) (v := ?v2) ?hi2 (by kernel_rfl) (by kernel_rfl) (by kernel_rfl) (fun _ _ _ h => h) ?hy2 hHeld ?re2
      case hi2 => (simp only [List.getElem?_toArray, List.getElem?_cons_succ, List.getElem?_cons_zero]; rfl)
      case hy2 =>
        refine Or.inl ⟨by rfl, ?_⟩
        intro wq hSw
        go_split_ands
        go_simp
        try with_reducible rfl
      (try simp only [Act.put, List.setIfInBounds_toArray, List.set_cons_zero, List.set_cons_succ])
      refine wpAnyH_take (i := 2) (oi := ?oi3) (v := ?v3) ?hi3 (by kernel_rfl) (by kernel_rfl) (by kernel_rfl) (fun _ _ _ h => h) ?hy3 hHeld ?re3
      case hi3 => (simp only [List.getElem?_toArray, List.getElem?_cons_succ, List.getElem?_cons_zero]; rfl)
      case hy3 =>
        refine Or.inl ⟨by rfl, ?_⟩
        intro wq hSw
        go_split_ands
        go_simp
        try with_reducible rfl
      (try simp only [Act.put, List.setIfInBounds_toArray, List.set_cons_zero, List.set_cons_succ])
      refine wpAnyH_take (i := 3) (oi := ?oi4) (v := ?v4) ?hi4 (by kernel_rfl) (by kernel_rfl) (by kernel_rfl) (fun _ _ _ h => h) ?hy4 hHeld ?re4
      case hi4 => (simp only [List.getElem?_toArray, List.getElem?_cons_succ, List.getElem?_cons_zero]; rfl)
      case hy4 =>
        refine Or.inl ⟨by rfl, ?_⟩
        intro wq hSw
        go_split_ands
        go_simp
        try with_reducible rfl
      (try simp only [Act.put, List.setIfInBounds_toArray, List.set_cons_zero, List.set_cons_succ])
      refine wpAnyH_take (i := 4) (oi := ?oi5) (v := ?v5) ?hi5 (by kernel_rfl) (by kernel_rfl) (by kernel_rfl) (fun _ _ _ h => h) ?hy5 hHeld ?re5
      case hi5 => (simp only [List.getElem?_toArray, List.getElem?_cons_succ, List.getElem?_cons_zero]; rfl)
      case hy5 =>
        refine Or.inl ⟨by rfl, ?_⟩
        intro wq hSw
        go_split_ands
        go_simp
        try with_reducible rfl
      (try simp only [Act.put, List.setIfInBounds_toArray, List.set_cons_zero, List.set_cons_succ])
      refine wpAnyH_take (i := 5) (oi := ?oi6) (v := ?v6) ?hi6 (by kernel_rfl) (by kernel_rfl) (by kernel_rfl) (fun _ _ _ h => h) ?hy6 hHeld ?re6
      case hi6 => (simp only [List.getElem?_toArray, List.getElem?_cons_succ, List.getElem?_cons_zero]; rfl)
      case hy6 =>
        refine Or.inl ⟨by rfl, ?_⟩
        intro wq hSw
        go_split_ands
        go_simp
        try with_reducible rfl
      (try simp only [Act.put, List.setIfInBounds_toArray, List.set_cons_zero, List.set_cons_succ])
      refine wpAnyH_take (i := 6) (oi := ?oi7) (v := ?v7) ?hi7 (by kernel_rfl) (by kernel_rfl) (by kernel_rfl) (fun _ _ _ h => h) ?hy7 hHeld ?re7
      case hi7 => (simp only [List.getElem?_toArray, List.getElem?_cons_succ, List.getElem?_cons_zero]; rfl)
      case hy7 =>
        refine Or.inl ⟨by rfl, ?_⟩
        intro wq hSw
        go_split_ands
        go_simp
        try with_reducible rfl
      (try simp only [Act.put, List.setIfInBounds_toArray, List.set_cons_zero, List.set_cons_succ])
      refine wpAnyH_take (i := 7) (oi := ?oi8) (v := ?v8) ?hi8 (by kernel_rfl) (by kernel_rfl) (by kernel_rfl) (fun _ _ _ h => h) ?hy8 hHeld ?re8
      case hi8 => (simp only [List.getElem?_toArray, List.getElem?_cons_succ, List.getElem?_cons_zero]; rfl)
      case hy8 =>
        refine Or.inl ⟨by rfl, ?_⟩
        intro wq hSw
        go_split_ands
        go_simp
        try with_reducible rfl
      (try simp only [Act.put, List.setIfInBounds_toArray, List.set_cons_zero, List.set_cons_succ])
      refine wpAnyH_take (i := 8) (oi := ?oi9) (v := ?v9) ?hi9 (by kernel_rfl) (by kernel_rfl) (by kernel_rfl) (fun _ _ _ h => h) ?hy9 hHeld ?re9
      case hi9 => (simp only [List.getElem?_toArray, List.getElem?_cons_succ, List.getElem?_cons_zero]; rfl)
      case hy9 =>
        refine Or.inl ⟨by rfl, ?_⟩
        intro wq hSw
        go_split_ands
        go_simp
        try with_reducible rfl
      (try simp only [Act.put, List.setIfInBounds_toArray, List.set_cons_zero, List.set_cons_succ])
      refine wpAnyH_take (i := 9) (oi := ?oi10) (v := ?v10) ?hi10 (by kernel_rfl) (by kernel_rfl) (by kernel_rfl) (fun _ _ _ h => h) ?hy10 hHeld ?re10
      case hi10 => (simp only [List.getElem?_toArray, List.getElem?_cons_succ, List.getElem?_cons_zero]; rfl)
      case hy10 =>
        refine Or.inl ⟨by rfl, ?_⟩
        intro wq hSw
        go_split_ands
        go_simp
        try with_reducible rfl
      (try simp only [Act.put, List.setIfInBounds_toArray, List.set_cons_zero, List.set_cons_succ])
      refine wpAnyH_take (i := 10) (oi := ?oi11) (v := ?v11) ?hi11 (by kernel_rfl) (by kernel_rfl) (by kernel_rfl) (fun _ _ _ h => h) ?hy11 hHeld ?re11
      case hi11 => (simp only [List.getElem?_toArray, List.getElem?_cons_succ, List.getElem?_cons_zero]; rfl)
      case hy11 =>
        refine Or.inl ⟨by rfl, ?_⟩
        intro wq hSw
        go_split_ands
        go_simp
        try with_reducible rfl
      (try simp only [Act.put, List.setIfInBounds_toArray, List.set_cons_zero, List.set_cons_succ])
      refine wpAnyH_take (i := 11) (oi := ?oi12) (v := ?v12) ?hi12 (by kernel_rfl) (by kernel_rfl) (by kernel_rfl) (fun _ _ _ h => h) ?hy12 hHeld ?re12
      case hi12 => (simp only [List.getElem?_toArray, List.getElem?_cons_succ, List.getElem?_cons_zero]; rfl)
      case hy12 =>
        refine Or.inl ⟨by rfl, ?_⟩
        intro wq hSw
        go_split_ands
        go_simp
        try with_reducible rfl
      (try simp only [Act.put, List.setIfInBounds_toArray, List.set_cons_zero, List.set_cons_succ])
      refine wpAnyH_take (i := 12) (oi := ?oi13) (v := ?v13) ?hi13 (by kernel_rfl) (by kernel_rfl) (by kernel_rfl) (fun _ _ _ h => h) ?hy13 hHeld ?re13
      case hi13 => (simp only [List.getElem?_toArray, List.getElem?_cons_succ, List.getElem?_cons_zero]; rfl)
      case hy13 =>
        refine Or.inl ⟨by rfl, ?_⟩
        intro wq hSw
        go_split_ands
        go_simp
        try with_reducible rfl
      (try simp only [Act.put, List.setIfInBounds_toArray, List.set_cons_zero, List.set_cons_succ])
      refine wpAnyH_take (i := 13) (oi := ?oi14) (v := ?v14) ?hi14 (by kernel_rfl) (by kernel_rfl) (by kernel_rfl) (fun _ _ _ h => h) ?hy14 hHeld ?re14
      case hi14 => (simp only [List.getElem?_toArray, List.getElem?_cons_succ, List.getElem?_cons_zero]; rfl)
      case hy14 =>
        refine Or.inl ⟨by rfl, ?_⟩
        intro wq hSw
        go_split_ands
        go_simp
        try with_reducible rfl
      (try simp only [Act.put, List.setIfInBounds_toArray, List.set_cons_zero, List.set_cons_succ])
      refine wpAnyH_take (i := 14) (oi := ?oi15) (v := ?v15) ?hi15 (by kernel_rfl) (by kernel_rfl) (by kernel_rfl) (fun _ _ _ h => h) ?hy15 hHeld ?re15
      case hi15 => (simp only [List.getElem?_toArray, List.getElem?_cons_succ, List.getElem?_cons_zero]; rfl)
      case hy15 =>
        refine Or.inl ⟨by rfl, ?_⟩
        intro wq hSw
        go_split_ands
        go_simp
        try with_reducible rfl
      (try simp only [Act.put, List.setIfInBounds_toArray, List.set_cons_zero, List.set_cons_succ])
      refine wpAnyH_take (i := 15) (oi := ?oi16) (v := ?v16) ?hi16 (by kernel_rfl) (by kernel_rfl) (by kernel_rfl) (fun _ _ _ h => h) ?hy16 hHeld ?re16
      case hi16 => (simp only [List.getElem?_toArray, List.getElem?_cons_succ, List.getElem?_cons_zero]; rfl)
      case hy16 =>
        refine Or.inl ⟨by rfl, ?_⟩
        intro wq hSw
        go_split_ands
        go_simp
        try with_reducible rfl
      (try simp only [Act.put, List.setIfInBounds_toArray, List.set_cons_zero, List.set_cons_succ])
      refine wpAnyH_ready (rs := [16]) (by kernel_rfl) (by simp) ?_
      refine AllReadyH.cons (o := ?o17) ?ho17 (fun K hK => ?st17) AllReadyH.nil
      case ho17 => (simp only [List.getElem?_toArray, List.getElem?_cons_succ, List.getElem?_cons_zero]; rfl)
      case st17 =>
        go_simp
        refine hK.out _ _ (hL.alloc _).c7 (fun hHeld => ?_)
        clear hK K
        (try simp only [Act.put, List.setIfInBounds_toArray, List.set_cons_zero, List.set_cons_succ])
        refine wpAnyH_ready (rs := [17]) (by kernel_rfl) (by simp) ?_
        refine AllReadyH.cons (o := ?o18) ?ho18 (fun K hK => ?st18) AllReadyH.nil
        case ho18 => (simp only [List.getElem?_toArray, List.getElem?_cons_succ, List.getElem?_cons_zero]; rfl)
        case st18 =>
          go_simp
          refine hK.out _ _ ((hL.alloc _).alloc _).c7 (fun hHeld => ?_)
          clear hK K
          (try simp only [Act.put, List.setIfInBounds_toArray, List.set_cons_zero, List.set_cons_succ])
          refine wpAnyH_ready (rs := [18]) (by kernel_rfl) (by simp) ?_
          refine AllReadyH.cons (o := ?o19) ?ho19 (fun K hK => ?st19) AllReadyH.nil
          case ho19 => (simp only [List.getElem?_toArray, List.getElem?_cons_succ, List.getElem?_cons_zero]; rfl)
          case st19 =>
            refine step_append_raw (w.heap.size + 2) rfl (.tmp 23) (.tmp 40) rfl _ l first x.tp (s.extract first.toNat x.tp.toNat) rfl rfl hPR hbsz hl5 ?_
            intro g3 cap3 w3 hPR3 hg3
            have hown := hPR.own
            have hL3 : IsL w3 (w.heap.size + 1) w.heap.size x := (hg3.block (w.heap.size + 1) hL.lt (fun he => by have := hown _ he.symm; omega)).trans hL
            have hB3 : Below w.heap.size w w3 := hB.grown hg3 hB.size (fun k hk => by have := hown k hk; omega)
            have hX3 : Lx0 w3 (w.heap.size + 1) w.heap.size s x := ⟨hL3, hX.f.grown hg3 (fun he => by have := hown _ he.symm; omega), hPow.below hB3⟩
            refine hK.out _ _ hL3.c7 (fun hHeld => ?_)
            clear hK K
            (try simp only [Act.put, List.setIfInBounds_toArray, List.set_cons_zero, List.set_cons_succ])
            refine wpAnyH_take (i := 19) (oi := ?oi20) (v := ?v20) ?hi20 (by kernel_rfl) (by kernel_rfl) (by kernel_rfl) (fun _ _ _ h => h) ?hy20 hHeld ?re20
            case hi20 => (simp only [List.getElem?_toArray, List.getElem?_cons_succ, List.getElem?_cons_zero]; rfl)
            case hy20 =>
              refine Or.inl ⟨by rfl, ?_⟩
              intro wq hSw
              go_split_ands
              go_simp
              try with_reducible rfl
            (try simp only [Act.put, List.setIfInBounds_toArray, List.set_cons_zero, List.set_cons_succ])
            refine wpAnyH_done (by kernel_rfl) ?_ _
            refine NoPanic.normal ?_
            cases hst : step s (kd x.kind.toList) x.dot x.pos with
            | none =>
              have HST := Aside0.mk hst
              have hRn : Aside0 (R = none) := ⟨HS1.fault hst⟩
              clear hst
              go_wp2_with (first | (go_at_call 23; (with_reducible refine (nextToken_c _ (w.heap.size + 1) w.heap.size x s hX3 hT x0 x1 hdot HTOK.out).mono ?_); rintro e w4 hn; rw [HST.out] at hn; obtain ⟨⟨g4, rfl⟩, hU4⟩ := hn))
              (try simp only [Exit.inBlock, Exit.then]); refine bodyPost_ret (results_tmp2 rfl _ _ _) rfl ?_
              rw [hRn.out]
              exact ⟨⟨g4, rfl⟩, hB3.trans (hU4.to_below (by omega) (by omega) hB3.size)⟩
            | some t =>
              have HST := Aside0.mk hst
              clear hst
              cases hcom : t.com with
              | none =>
                have HCM := Aside0.mk hcom
                clear hcom
                go_wp2_with (first | (go_at_call 23; (with_reducible refine (nextToken_c _ (w.heap.size + 1) w.heap.size x s hX3 hT x0 x1 hdot HTOK.out).mono ?_); rintro e w4 hn; rw [HST.out] at hn; obtain ⟨rfl, hU4, y, n, B, hBB, hLy, hyk, hytp, hype, hydot, hCy⟩ := hn; have y1 := hLy.c1; have y7 : w4.cell? ⟨w.heap.size + 1, 7, none⟩ = some (.int .i64 t.pos) := (by rw [← hytp]; exact hLy.c7); obtain ⟨Ay, Cy, hv0⟩ := ComAt.none_of (by rw [← HCM.out]; exact hCy); have y2 : w4.cell? ⟨w.heap.size + 1, 2, none⟩ = some (.slice Ay 0 Cy) := (by rw [← hv0]; exact hLy.c2)))
                go_roundg n0
                case measure => omega
                case rel => exact ⟨y, _, t.pos, _, rfl, rfl, by have h5 := HS1.stepA (w4 := w4) (y := y) hsm HST.out (hB3.trans (hU4.to_below (by omega) hB3.size)) (by have := hU4.size; have := hg3.size; omega) (hX3.step hU4 hLy) (hPR3.ups hU4 (by omega)) hyk hytp hype hydot; rw [HCM.out] at h5; exact h5⟩
              | some c0 =>
                have HCM := Aside0.mk hcom
                clear hcom
                go_wp2_with (first | (go_at_call 23; (with_reducible refine (nextToken_c _ (w.heap.size + 1) w.heap.size x s hX3 hT x0 x1 hdot HTOK.out).mono ?_); rintro e w4 hn; rw [HST.out] at hn; obtain ⟨rfl, hU4, y, n, B, hBB, hLy, hyk, hytp, hype, hydot, hCy⟩ := hn; have y1 := hLy.c1; have y7 : w4.cell? ⟨w.heap.size + 1, 7, none⟩ = some (.int .i64 t.pos) := (by rw [← hytp]; exact hLy.c7); obtain ⟨ga, n1, capa, hv0, hc0⟩ := ComAt.some_of (c := c0) (by rw [← HCM.out]; exact hCy); have y2 : w4.cell? ⟨w.heap.size + 1, 2, none⟩ = some (.slice (some ⟨ga, 0, none⟩) (n1 + 1) capa) := (by rw [← hv0]; exact hLy.c2); have hn1 : decide ((0 : Int) < (n1 : Int) + 1) = true := decide_eq_true (by omega)))
                go_roundg n0
                case measure => omega
                case rel => exact ⟨y, _, c0, _, rfl, rfl, by have h5 := HS1.stepA (w4 := w4) (y := y) hsm HST.out (hB3.trans (hU4.to_below (by omega) hB3.size)) (by have := hU4.size; have := hg3.size; omega) (hX3.step hU4 hLy) (hPR3.ups hU4 (by omega)) hyk hytp hype hydot; rw [HCM.out] at h5; exact h5⟩
    · rw [decide_eq_false hsm] at hkk
      cases hst : step s (kd x.kind.toList) x.dot x.pos with
      | none =>
        have HST := Aside0.mk hst
        have hRn : Aside0 (R = none) := ⟨HS1.fault hst⟩
        clear hst
        go_wp2_with (first | (go_at_call 23; (with_reducible refine (nextToken_c _ (w.heap.size + 1) w.heap.size x s hX hT x0 x1 hdot HTOK.out).mono ?_); rintro e w4 hn; rw [HST.out] at hn; obtain ⟨⟨g4, rfl⟩, hU4⟩ := hn))
        (try simp only [Exit.inBlock, Exit.then]); refine bodyPost_ret (results_tmp2 rfl _ _ _) rfl ?_
        rw [hRn.out]
        exact ⟨⟨g4, rfl⟩, HS.below.trans (hU4.to_below (by omega) (by omega) HS.below.size)⟩
      | some t =>
        have HST := Aside0.mk hst
        by_cases hte : t.kd = .eof
        · have hRe0 := HS1.ends hsm hst hte
          have hm := step_moves s _ _ _ t x0 x1 hst
          have t0 : 0 ≤ t.pos := by have := hm.pos; omega
          have t1 : t.pos ≤ (s.size : Int) := by have := hm.le; have := hm.top; omega
          have t2 : first ≤ t.pos := by have := hm.pos; have := HS.f1; omega
          clear hst hm
          by_cases hpf : t.pos = first
          · have hRe : Aside0 (R = some l) := ⟨by rw [hRe0, if_pos hpf]⟩
            have hne : (t.pos != first) = false := by rw [hpf]; simp
            clear hRe0
            cases l with
            | nil =>
              go_wp2_with (first | (go_at_call 23; (with_reducible refine (nextToken_c _ (w.heap.size + 1) w.heap.size x s hX hT x0 x1 hdot HTOK.out).mono ?_); rintro e w4 hn; rw [HST.out] at hn; obtain ⟨rfl, hU4, y, n, B, hBB, hLy, hyk, hytp, hype, hydot, hCy⟩ := hn; have y1 := hLy.c1; have y7 : w4.cell? ⟨w.heap.size + 1, 7, none⟩ = some (.int .i64 t.pos) := (by rw [← hytp]; exact hLy.c7); have hke : (y.kind.toList == [60, 101, 111, 102, 62]) = true := (by have h5 := kd_eof y.kind.toList; unfold kEof at h5; rw [h5, hyk]; exact decide_eq_true hte)))
              (try simp only [Exit.inBlock, Exit.then]); refine bodyPost_ret (results_tmp2 rfl _ _ _) rfl ?_
              rw [hRe.out]
              have hB4 := HS.below.trans (hU4.to_below (by omega) HS.below.size)
              exact ⟨_, _, rfl, below_alloc (below_alloc hB4 _) _, hB4.size, PRow.one w4⟩
            | cons q l' =>
              have hl1 : ((l'.length : Int) + 1 == 0) = false := beqf (by omega)
              have hl2 : (((q :: l').length : Int) == 0) = false := beqf (by simp; omega)
              go_wp2_with (first | (go_at_call 23; (with_reducible refine (nextToken_c _ (w.heap.size + 1) w.heap.size x s hX hT x0 x1 hdot HTOK.out).mono ?_); rintro e w4 hn; rw [HST.out] at hn; obtain ⟨rfl, hU4, y, n, B, hBB, hLy, hyk, hytp, hype, hydot, hCy⟩ := hn; have y1 := hLy.c1; have y7 : w4.cell? ⟨w.heap.size + 1, 7, none⟩ = some (.int .i64 t.pos) := (by rw [← hytp]; exact hLy.c7); have hke : (y.kind.toList == [60, 101, 111, 102, 62]) = true := (by have h5 := kd_eof y.kind.toList; unfold kEof at h5; rw [h5, hyk]; exact decide_eq_true hte)))
              (try simp only [Exit.inBlock, Exit.then]); refine bodyPost_ret (results_tmp2 rfl _ _ _) rfl ?_
              rw [hRe.out]
              exact ⟨_, w.heap.size + 2, rfl, HS.below.trans (hU4.to_below (by omega) HS.below.size), by omega, by rw [fixS_cons]; exact hPR.ups hU4 (by omega)⟩
          · have hRe : Aside0 (R = some (l ++ [(first, t.pos, s.extract first.toNat t.pos.toNat)])) := ⟨by rw [hRe0, if_neg hpf]⟩
            have hne : (t.pos != first) = true := by simpa using hpf
            clear hRe0 hpf
            go_wp2_with (first | (go_at_call 23; (with_reducible refine (nextToken_c _ (w.heap.size + 1) w.heap.size x s hX hT x0 x1 hdot HTOK.out).mono ?_); rintro e w4 hn; rw [HST.out] at hn; obtain ⟨rfl, hU4, y, n, B, hBB, hLy, hyk, hytp, hype, hydot, hCy⟩ := hn; have y1 := hLy.c1; have y7 : w4.cell? ⟨w.heap.size + 1, 7, none⟩ = some (.int .i64 t.pos) := (by rw [← hytp]; exact hLy.c7); have hke : (y.kind.toList == [60, 101, 111, 102, 62]) = true := (by have h5 := kd_eof y.kind.toList; unfold kEof at h5; rw [h5, hyk]; exact decide_eq_true hte)))
            have hX4 := hX.step hU4 hLy
            have hPR4 := hPR.ups hU4 (show w.heap.size + 1 < w.heap.size + 2 by omega)
            have hB4 := HS.below.trans (hU4.to_below (by omega) HS.below.size)
            have hsz4 : w.heap.size + 2 ≤ w4.heap.size := by have := hU4.size; omega
            refine wp_region_noPanic ?_
            refine wp_region_held_drew (S := fun W => W.cell? ⟨w.heap.size + 1, 7, none⟩ = some (.int .i64 t.pos)) (by kernel_rfl) (hLy.c7.trans (by rw [← hytp])) (fun hHeld => ?_)
            refine wpAnyH_take (i := 0) (oi := ?oi21) (v := ?v21) ?hi21 (by kernel_rfl) (by kernel_rfl) (by kernel_rfl) (fun _ _ _ h => h) ?hy21 hHeld ?re21
            case hi21 => (simp only [List.getElem?_toArray, List.getElem?_cons_zero]; rfl)
            case hy21 =>
              refine Or.inl ⟨by rfl, ?_⟩
              intro wq hSw
              go_split_ands
              go_simp
              try with_reducible rfl
            (try simp only [Act.put, List.setIfInBounds_toArray, List.set_cons_zero, List.set_cons_succ])
            refine wpAnyH_take (i := 1) (oi := ?oi22) (v := ?v22) ?hi22 (by kernel_rfl) (by kernel_rfl) (by kernel_rfl) (fun _ _ _ h => h) ?hy22 hHeld ?re22
            case hi22 => (simp only [List.getElem?_toArray, List.getElem?_cons_succ, List.getElem?_cons_zero]; rfl)
            case hy22 =>
              refine Or.inl ⟨by rfl, ?_⟩
              intro wq hSw
              go_split_ands
              go_simp
              try with_reducible rfl
            (try simp only [Act.put, List.setIfInBounds_toArray, List.set_cons_zero, List.set_cons_succ])
            refine wpAnyH_take (i := 2) (oi := ?oi23) (v := ?v23) ?hi23 (by kernel_rfl) (by kernel_rfl) (by kernel_rfl) (fun _ _ _ h => h) ?hy23 hHeld ?re23
            case hi23 => (simp only [List.getElem?_toArray, List.getElem?_cons_succ, List.getElem?_cons_zero]; rfl)
            case hy23 =>
              refine Or.inl ⟨by rfl, ?_⟩
              intro wq hSw
              go_split_ands
              go_simp
              try with_reducible rfl
            (try simp only [Act.put, List.setIfInBounds_toArray, List.set_cons_zero, List.set_cons_succ])
            refine wpAnyH_take (i := 3) (oi := ?oi24) (v := ?v24) ?hi24 (by kernel_rfl) (by kernel_rfl) (by kernel_rfl) (fun _ _ _ h => h) ?hy24 hHeld ?re24
            case hi24 => (simp only [List.getElem?_toArray, List.getElem?_cons_succ, List.getElem?_cons_zero]; rfl)
            case hy24 =>
              refine Or.inl ⟨by rfl, ?_⟩
              intro wq hSw
              go_split_ands
              go_simp
              try with_reducible rfl
            (try simp only [Act.put, List.setIfInBounds_toArray, List.set_cons_zero, List.set_cons_succ])
            refine wpAnyH_take (i := 4) (oi := ?oi25) (v := ?v25) ?hi25 (by kernel_rfl) (by kernel_rfl) (by kernel_rfl) (fun _ _ _ h => h) ?hy25 hHeld ?re25
            case hi25 => (simp only [List.getElem?_toArray, List.getElem?_cons_succ, List.getElem?_cons_zero]; rfl)
            case hy25 =>
              refine Or.inl ⟨by rfl, ?_⟩
              intro wq hSw
              go_split_ands
              go_simp
              try with_reducible rfl
            (try simp only [Act.put, List.setIfInBounds_toArray, List.set_cons_zero, List.set_cons_succ])
            refine wpAnyH_take (i := 5) (oi := ?oi26) (v := ?v26) ?hi26 (by kernel_rfl) (by kernel_rfl) (by kernel_rfl) (fun _ _ _ h => h) ?hy26 hHeld ?re26
            case hi26 => (simp only [List.getElem?_toArray, List.getElem?_cons_succ, List.getElem?_cons_zero]; rfl)
            case hy26 =>
              refine Or.inl ⟨by rfl, ?_⟩
              intro wq hSw
              go_split_ands
              go_simp
              try with_reducible rfl
            (try simp only [Act.put, List.setIfInBounds_toArray, List.set_cons_zero, List.set_cons_succ])
            refine wpAnyH_take (i := 6) (oi := ?oi27) (v := ?v27) ?hi27 (by kernel_rfl) (by kernel_rfl) (by kernel_rfl) (fun _ _ _ h => h) ?hy27 hHeld ?re27
            case hi27 => (simp only [List.getElem?_toArray, List.getElem?_cons_succ, List.getElem?_cons_zero]; rfl)
            case hy27 =>
              refine Or.inl ⟨by rfl, ?_⟩
              intro wq hSw
              go_split_ands
              go_simp
              try with_reducible rfl
            (try simp only [Act.put, List.setIfInBounds_toArray, List.set_cons_zero, List.set_cons_succ])
            refine wpAnyH_take (i := 7) (oi := ?oi28) (v := ?v28) ?hi28 (by kernel_rfl) (by kernel_rfl) (by kernel_rfl) (fun _ _ _ h => h) ?hy28 hHeld ?re28
            case hi28 => (simp only [List.getElem?_toArray, List.getElem?_cons_succ, List.getElem?_cons_zero]; rfl)
            case hy28 =>
              refine Or.inl ⟨by rfl, ?_⟩
              intro wq hSw
              go_split_ands
              go_simp
              try with_reducible rfl
            (try simp only [Act.put, List.setIfInBounds_toArray, List.set_cons_zero, List.set_cons_succ])
            refine wpAnyH_take (i := 8) (oi := ?oi29) (v := ?v29) ?hi29 (by kernel_rfl) (by kernel_rfl) (by kernel_rfl) (fun _ _ _ h => h) ?hy29 hHeld ?re29
            case hi29 => (simp only [List.getElem?_toArray, List.getElem?_cons_succ, List.getElem?_cons_zero]; rfl)
            case hy29 =>
              refine Or.inl ⟨by rfl, ?_⟩
              intro wq hSw
              go_split_ands
              go_simp
              try with_reducible rfl
            (try simp only [Act.put, List.setIfInBounds_toArray, List.set_cons_zero, List.set_cons_succ])
            refine wpAnyH_take (i := 9) (oi := ?oi30) (v := ?v30) ?hi30 (by kernel_rfl) (by kernel_rfl) (by kernel_rfl) (fun _ _ _ h => h) ?hy30 hHeld ?re30
            case hi30 => (simp only [List.getElem?_toArray, List.getElem?_cons_succ, List.getElem?_cons_zero]; rfl)
            case hy30 =>
              refine Or.inl ⟨by rfl, ?_⟩
              intro wq hSw
              go_split_ands
              go_simp
              try with_reducible rfl
            (try simp only [Act.put, List.setIfInBounds_toArray, List.set_cons_zero, List.set_cons_succ])
            refine wpAnyH_take (i := 10) (oi := ?oi31) (v := ?v31) ?hi31 (by kernel_rfl) (by kernel_rfl) (by kernel_rfl) (fun _ _ _ h => h) ?hy31 hHeld ?re31
            case hi31 => (simp only [List.getElem?_toArray, List.getElem?_cons_succ, List.getElem?_cons_zero]; rfl)
            case hy31 =>
              refine Or.inl ⟨by rfl, ?_⟩
              intro wq hSw
              go_split_ands
              go_simp
              try with_reducible rfl
            (try simp only [Act.put, List.setIfInBounds_toArray, List.set_cons_zero, List.set_cons_succ])
            refine wpAnyH_take (i := 11) (oi := ?oi32) (v := ?v32) ?hi32 (by kernel_rfl) (by kernel_rfl) (by kernel_rfl) (fun _ _ _ h => h) ?hy32 hHeld ?re32
            case hi32 => (simp only [List.getElem?_toArray, List.getElem?_cons_succ, List.getElem?_cons_zero]; rfl)
            case hy32 =>
              refine Or.inl ⟨by rfl, ?_⟩
              intro wq hSw
              go_split_ands
              go_simp
              try with_reducible rfl
            (try simp only [Act.put, List.setIfInBounds_toArray, List.set_cons_zero, List.set_cons_succ])
            refine wpAnyH_take (i := 12) (oi := ?oi33) (v := ?v33) ?hi33 (by kernel_rfl) (by kernel_rfl) (by kernel_rfl) (fun _ _ _ h => h) ?hy33 hHeld ?re33
            case hi33 => (simp only [List.getElem?_toArray, List.getElem?_cons_succ, List.getElem?_cons_zero]; rfl)
            case hy33 =>
              refine Or.inl ⟨by rfl, ?_⟩
              intro wq hSw
              go_split_ands
              go_simp
              try with_reducible rfl
            (try simp only [Act.put, List.setIfInBounds_toArray, List.set_cons_zero, List.set_cons_succ])
            refine wpAnyH_take (i := 13) (oi := ?oi34) (v := ?v34) ?hi34 (by kernel_rfl) (by kernel_rfl) (by kernel_rfl) (fun _ _ _ h => h) ?hy34 hHeld ?re34
            case hi34 => (simp only [List.getElem?_toArray, List.getElem?_cons_succ, List.getElem?_cons_zero]; rfl)
            case hy34 =>
              refine Or.inl ⟨by rfl, ?_⟩
              intro wq hSw
              go_split_ands
              go_simp
              try with_reducible rfl
            (try simp only [Act.put, List.setIfInBounds_toArray, List.set_cons_zero, List.set_cons_succ])
            refine wpAnyH_take (i := 14) (oi := ?oi35) (v := ?v35) ?hi35 (by kernel_rfl) (by kernel_rfl) (by kernel_rfl) (fun _ _ _ h => h) ?hy35 hHeld ?re35
            case hi35 => (simp only [List.getElem?_toArray, List.getElem?_cons_succ, List.getElem?_cons_zero]; rfl)
            case hy35 =>
              refine Or.inl ⟨by rfl, ?_⟩
              intro wq hSw
              go_split_ands
              go_simp
              try with_reducible rfl
            (try simp only [Act.put, List.setIfInBounds_toArray, List.set_cons_zero, List.set_cons_succ])
            refine wpAnyH_take (i := 15) (oi := ?oi36) (v := ?v36) ?hi36 (by kernel_rfl) (by kernel_rfl) (by kernel_rfl) (fun _ _ _ h => h) ?hy36 hHeld ?re36
            case hi36 => (simp only [List.getElem?_toArray, List.getElem?_cons_succ, List.getElem?_cons_zero]; rfl)
            case hy36 =>
              refine Or.inl ⟨by rfl, ?_⟩
              intro wq hSw
              go_split_ands
              go_simp
              try with_reducible rfl
            (try simp only [Act.put, List.setIfInBounds_toArray, List.set_cons_zero, List.set_cons_succ])
            refine wpAnyH_ready (rs := [16]) (by kernel_rfl) (by simp) ?_
            refine AllReadyH.cons (o := ?o37) ?ho37 (fun K hK => ?st37) AllReadyH.nil
            case ho37 => (simp only [List.getElem?_toArray, List.getElem?_cons_succ, List.getElem?_cons_zero]; rfl)
            case st37 =>
              go_simp
              refine hK.out _ _ ((hLy.alloc _).c7.trans (by rw [← hytp])) (fun hHeld => ?_)
              clear hK K
              (try simp only [Act.put, List.setIfInBounds_toArray, List.set_cons_zero, List.set_cons_succ])
              refine wpAnyH_ready (rs := [17]) (by kernel_rfl) (by simp) ?_
              refine AllReadyH.cons (o := ?o38) ?ho38 (fun K hK => ?st38) AllReadyH.nil
              case ho38 => (simp only [List.getElem?_toArray, List.getElem?_cons_succ, List.getElem?_cons_zero]; rfl)
              case st38 =>
                go_simp
                refine hK.out _ _ (((hLy.alloc _).alloc _).c7.trans (by rw [← hytp])) (fun hHeld => ?_)
                clear hK K
                (try simp only [Act.put, List.setIfInBounds_toArray, List.set_cons_zero, List.set_cons_succ])
                refine wpAnyH_ready (rs := [18]) (by kernel_rfl) (by simp) ?_
                refine AllReadyH.cons (o := ?o39) ?ho39 (fun K hK => ?st39) AllReadyH.nil
                case ho39 => (simp only [List.getElem?_toArray, List.getElem?_cons_succ, List.getElem?_cons_zero]; rfl)
                case st39 =>
                  refine step_append_raw (w.heap.size + 2) rfl (.tmp 85) (.tmp 102) rfl _ l first t.pos (s.extract first.toNat t.pos.toNat) rfl rfl hPR4 hsz4 hl5 ?_
                  intro g3 cap3 w3 hPR3 hg3
                  have hown := hPR4.own
                  have hL3 : IsL w3 (w.heap.size + 1) w.heap.size y := (hg3.block (w.heap.size + 1) hLy.lt (fun he => by have := hown _ he.symm; omega)).trans hLy
                  have hB3 : Below w.heap.size w w3 := hB4.grown hg3 hB4.size (fun k hk => by have := hown k hk; omega)
                  have hX3 : Lx0 w3 (w.heap.size + 1) w.heap.size s y := ⟨hL3, hX4.f.grown hg3 (fun he => by have := hown _ he.symm; omega), hPow.below hB3⟩
                  refine hK.out _ _ (hL3.c7.trans (by rw [← hytp])) (fun hHeld => ?_)
                  clear hK K
                  (try simp only [Act.put, List.setIfInBounds_toArray, List.set_cons_zero, List.set_cons_succ])
                  refine wpAnyH_take (i := 19) (oi := ?oi40) (v := ?v40) ?hi40 (by kernel_rfl) (by kernel_rfl) (by kernel_rfl) (fun _ _ _ h => h) ?hy40 hHeld ?re40
                  case hi40 => (simp only [List.getElem?_toArray, List.getElem?_cons_succ, List.getElem?_cons_zero]; rfl)
                  case hy40 =>
                    refine Or.inl ⟨by rfl, ?_⟩
                    intro wq hSw
                    go_split_ands
                    go_simp
                    try with_reducible rfl
                  (try simp only [Act.put, List.setIfInBounds_toArray, List.set_cons_zero, List.set_cons_succ])
                  refine wpAnyH_done (by kernel_rfl) ?_ _
                  refine NoPanic.normal ?_
                  have hl1 : ((l.length : Int) + 1 == 0) = false := beqf (by omega)
                  go_wp2
                  (try simp only [Exit.inBlock, Exit.then]); refine bodyPost_ret (results_tmp2 rfl _ _ _) rfl ?_
                  rw [hRe.out]
                  exact ⟨_, w.heap.size + 2, rfl, hB3, by omega, by rw [fixS_app]; exact hPR3⟩
        · have HTE := Aside0.mk hte
          clear hst hte
          go_wp2_with (first | (go_at_call 23; (with_reducible refine (nextToken_c _ (w.heap.size + 1) w.heap.size x s hX hT x0 x1 hdot HTOK.out).mono ?_); rintro e w4 hn; rw [HST.out] at hn; obtain ⟨rfl, hU4, y, n, B, hBB, hLy, hyk, hytp, hype, hydot, hCy⟩ := hn; have y1 := hLy.c1; have y7 : w4.cell? ⟨w.heap.size + 1, 7, none⟩ = some (.int .i64 t.pos) := (by rw [← hytp]; exact hLy.c7); have hke : (y.kind.toList == [60, 101, 111, 102, 62]) = false := (by have h5 := kd_eof y.kind.toList; unfold kEof at h5; rw [h5, hyk]; exact decide_eq_false HTE.out)))
          go_roundg n0
          case measure => omega
          case rel => exact ⟨y, _, first, l, rfl, rfl, HS1.stepB (w4 := w4) (y := y) hsm HST.out HTE.out (HS.below.trans (hU4.to_below (by omega) HS.below.size)) (by have := hU4.size; omega) (hX.step hU4 hLy) (hPR.ups hU4 (by omega)) hyk hytp hype hydot⟩
end Go.Proofs.YtjepdlmcombmcaaGreatDoor.Lx
