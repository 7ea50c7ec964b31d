/- The pure lexical walk: gaps, words, numbers, quoted contents, signs. Plain definitions and their step laws; no program. -/
import Derived.Test.YtjepdlmcombmcaaGreatDoorGa
import Derived.StillTailTactics
namespace Go.Proofs.YtjepdlmcombmcaaGreatDoor.Lx
open Go.RowKit Go.Proofs.YtjepdlmcombmcaaGreatDoorW.PrintWords

/-! ### gaps -/
/-- Where the line from p on ends: its line feed, or the text's end. -/
def lineEnd (s : ByteArray) (p : Int) : Int := run (fun c => c != 10) s p
/-- Where the next closing sign of a comment from p on stands, or the text's end. -/
def starAt (s : ByteArray) (p : Int) : Int := upto (fun j => !(bt s j == 42 && bt s (j + 1) == 47)) (s.size : Int) p
def isLineC (s : ByteArray) (p : Int) : Bool := bt s p == 35 || (bt s p == 45 && bt s (p + 1) == 45)
def isBlockC (s : ByteArray) (p : Int) : Bool := bt s p == 47 && bt s (p + 1) == 42
/-- Where the comment at p ends: p, if there is none; none, if it is not closed. -/
def comm (s : ByteArray) (p : Int) : Option Int :=
  if isLineC s p then some (min (lineEnd s p + 1) (s.size : Int))
  else if isBlockC s p then (if starAt s (p + 2) < (s.size : Int) then some (starAt s (p + 2) + 2) else none)
  else some p
/-- Where the token behind blanks and comments begins. -/
def gap (s : ByteArray) : Nat → Int → Option Int
  | 0, _ => none
  | k + 1, p => match comm s (run isSp s p) with
    | none => none
    | some e => if e = run isSp s p then some e else gap s k e
/-- Whether a comment stands in that gap, and where the first one begins. -/
def firstC (s : ByteArray) (p : Int) : Option Int := if comm s (run isSp s p) = some (run isSp s p) then none else some (run isSp s p)

/-! ### numbers -/
def hexPre (s : ByteArray) (p : Int) : Bool := bt s p == 48 && (bt s (p + 1) == 120 || bt s (p + 1) == 88)
/-- The exponent at e: where it ends; none, if it has no digit. -/
def expo (s : ByteArray) (e : Int) : Option Int :=
  if isDigit (bt s (if bt s (e + 1) == 43 || bt s (e + 1) == 45 then e + 2 else e + 1)) then some (run isDigit s (if bt s (e + 1) == 43 || bt s (e + 1) == 45 then e + 2 else e + 1)) else none
def dotted (s : ByteArray) (p : Int) : Bool := bt s (run isDigit s p) == 46
def mant (s : ByteArray) (p : Int) : Int := if dotted s p then run isDigit s (run isDigit s p + 1) else run isDigit s p
def isE (c : Int) : Bool := c == 69 || c == 101
/-- The number at p: is it a float, and where it ends; none, if it is none. -/
def num (s : ByteArray) (p : Int) : Option (Bool × Int) :=
  if hexPre s p then (if isPart (bt s (run isHex s (p + 2))) then none else some (false, run isHex s (p + 2)))
  else if isE (bt s (mant s p)) then
    match expo s (mant s p) with
    | none => none
    | some e => if isPart (bt s e) then none else some (true, e)
  else if isPart (bt s (mant s p)) then none else some (dotted s p, mant s p)

/-! ### quoted contents -/
/-- The closing mark of L bytes c stands at i. -/
def isQ (s : ByteArray) (c L i : Int) : Bool := bt s i == c && (L == 1 || (bt s (i + 1) == c && bt s (i + 2) == c))
def isSimpleEsc (c : Int) : Bool := c == 97 || c == 98 || c == 102 || c == 110 || c == 114 || c == 116 || c == 118 || c == 92 || c == 63 || c == 34 || c == 39 || c == 96
/-- k hexadecimal digits stand from i on. -/
def hexes (s : ByteArray) : Nat → Int → Bool
  | 0, _ => true
  | k + 1, i => isHex (bt s i) && hexes s k (i + 1)
/-- The number that k hexadecimal digits from i on make, behind the number n. -/
def hexNum (s : ByteArray) : Nat → Int → Int → Int
  | 0, _, n => n
  | k + 1, i, n => hexNum s k (i + 1) (16 * n + hexVal (bt s i))
def isRune (n : Int) : Bool := decide (n ≤ 1114111) && !(decide (55296 ≤ n) && decide (n ≤ 57343))
/-- The escape whose backslash stands at i: where it ends; none, if it is none. -/
def esc (s : ByteArray) (raw bytes : Bool) (i : Int) : Option Int :=
  if (s.size : Int) ≤ i + 1 then none
  else if raw then some (i + 2)
  else if isSimpleEsc (bt s (i + 1)) then some (i + 2)
  else if bt s (i + 1) == 120 || bt s (i + 1) == 88 then (if hexes s 2 (i + 2) then some (i + 4) else none)
  else if (bt s (i + 1) == 117) && !bytes then (if hexes s 4 (i + 2) && isRune (hexNum s 4 (i + 2) 0) then some (i + 6) else none)
  else if (bt s (i + 1) == 85) && !bytes then (if hexes s 8 (i + 2) && isRune (hexNum s 8 (i + 2) 0) then some (i + 10) else none)
  else if decide (48 ≤ bt s (i + 1) ∧ bt s (i + 1) ≤ 51) then (if isOct (bt s (i + 2)) && isOct (bt s (i + 3)) then some (i + 4) else none)
  else none
/-- Where the content from i on ends, behind its closing mark. -/
def quoted (s : ByteArray) (c L : Int) (raw bytes : Bool) : Nat → Int → Option Int
  | 0, _ => none
  | k + 1, i =>
    if (s.size : Int) ≤ i then none
    else if isQ s c L i then some (i + L)
    else if bt s i == 92 then
      match esc s raw bytes i with
      | none => none
      | some e => quoted s c L raw bytes k e
    else if bt s i == 10 && L == 1 then none
    else quoted s c L raw bytes k (i + 1)
/-- The length of the marks of the literal that begins at p with the mark c. -/
def markLen (s : ByteArray) (c p : Int) : Int := if c != 96 && bt s (p + 1) == c && bt s (p + 2) == c then 3 else 1
def lit (s : ByteArray) (raw bytes : Bool) (p : Int) : Option Int := quoted s (bt s p) (markLen s (bt s p) p) raw bytes ((s.size : Int) - p).toNat (p + markLen s (bt s p) p)

/-! ### the letters ahead of a literal -/
def isMark (c : Int) : Bool := c == 34 || c == 39
def isR (c : Int) : Bool := c == 82 || c == 114
def isB (c : Int) : Bool := c == 66 || c == 98
/-- How many letters stand ahead of the mark (at most n more may), and whether they say raw, and bytes. -/
def pfx (s : ByteArray) : Nat → Int → Bool → Bool → Option (Int × Bool × Bool)
  | 0, _, _, _ => none
  | k + 1, p, raw, bytes =>
    if isMark (bt s p) then some (p, raw, bytes)
    else if isR (bt s p) && !raw then pfx s k (p + 1) true bytes
    else if isB (bt s p) && !bytes then pfx s k (p + 1) raw true
    else none
end Go.Proofs.YtjepdlmcombmcaaGreatDoor.Lx

/- Comments: what skipCommentUntil and skipComment leave, where the comment is closed. Conditions: the lexer's state; the text's bytes. -/
namespace Go.Proofs.YtjepdlmcombmcaaGreatDoor.Lx
open Go.RowKit Go.Proofs.YtjepdlmcombmcaaGreatDoorW.PrintWords

theorem bt_far (s : ByteArray) (i : Int) (h : s.size ≤ i.toNat) : bt s i = 0 := by
  unfold bt
  rw [dif_neg (by omega)]
/-- A byte that is not 0 stands within the text. -/
theorem bt_in {s : ByteArray} {i c : Int} (h : bt s i = c) (hc : c ≠ 0) (h0 : 0 ≤ i) : i < (s.size : Int) := by
  by_cases hi : i < (s.size : Int)
  · exact hi
  · rw [bt_far s i (by omega)] at h
    exact absurd h.symm hc
theorem list_beq (a b : ByteArray) : (a.toList == b.toList) = decide (a = b) := by
  rw [Bool.eq_iff_iff, beq_iff_eq, decide_eq_true_iff, ByteArray.toList_eq, ByteArray.toList_eq]
  refine ⟨fun h => ByteArray.ext (Array.toList_inj.1 h), fun h => by rw [h]⟩
theorem same_bt {a b : ByteArray} (hs : a.size = b.size) (h : ∀ i : Nat, i < a.size → bt a (i : Int) = bt b (i : Int)) : a = b := by
  apply ByteArray.ext
  apply Array.ext
  · exact hs
  · intro i h1 h2
    have hi := h i h1
    have e1 := bt_at a (i : Int) (by simpa using h1)
    have e2 := bt_at b (i : Int) (by simpa using h2)
    rw [← e1, ← e2] at hi
    have h3 : (a[((i : Int).toNat)]'(by simpa using h1)).toNat = (b[((i : Int).toNat)]'(by simpa using h2)).toNat := by exact_mod_cast hi
    exact UInt8.toNat_inj.1 h3
/-- A cut of the text is the text t: by its bytes. -/
theorem cut_is (s t : ByteArray) (p : Int) (h0 : 0 ≤ p) (hp : p ≤ (s.size : Int)) (hz : ∀ j : Int, 0 ≤ j → j < (t.size : Int) → bt t j ≠ 0) :
    decide (s.extract p.toNat (p + t.size).toNat = t) = (List.range t.size).all (fun j => bt s (p + (j : Nat)) == bt t (j : Nat)) := by
  rw [Bool.eq_iff_iff, decide_eq_true_iff, List.all_eq_true]
  constructor
  · intro h j hj
    have hj' := List.mem_range.1 hj
    have hsz : (s.extract p.toNat (p + t.size).toNat).size = t.size := by rw [h]
    rw [ByteArray.size_extract] at hsz
    have e := bt_extract s p (p + t.size) (j : Int) h0 (by omega) (by omega) (by omega)
    rw [h] at e
    rw [e]
    exact beq_self_eq_true _
  · intro h
    have hin : p + t.size ≤ (s.size : Int) := by
      by_cases ht : t.size = 0
      · omega
      · have hl := h (t.size - 1) (List.mem_range.2 (by omega))
        have hl' := beq_iff_eq.1 hl
        have := bt_in hl' (hz _ (by omega) (by omega)) (by omega)
        omega
    have hsz := size_extract s p (p + t.size) h0 (by omega) hin
    refine same_bt (by omega) fun i hi => ?_
    rw [bt_extract s p (p + t.size) (i : Int) h0 (by omega) (by omega) hin]
    exact beq_iff_eq.1 (h i (List.mem_range.2 (by omega)))

theorem cut1 (s : ByteArray) (p : Int) (c : UInt8) (h0 : 0 ≤ p) (hp : p ≤ (s.size : Int)) (hc : c.toNat ≠ 0) : ((s.extract p.toNat (p + 1).toNat).toList == [c]) = (bt s p == (c.toNat : Int)) := by
  have h := cut_is s ⟨#[c]⟩ p h0 hp (by
    intro j j0 j1
    have e : ((⟨#[c]⟩ : ByteArray).size : Int) = 1 := rfl
    obtain rfl : j = 0 := by omega
    show ((c.toNat : Nat) : Int) ≠ 0
    omega)
  have e : ((⟨#[c]⟩ : ByteArray).size : Int) = 1 := rfl
  have e1 : (⟨#[c]⟩ : ByteArray).toList = [c] := ByteArray.toList_mk [c]
  rw [e] at h
  rw [← e1, list_beq, h]
  show ([0].all fun j : Nat => bt s (p + (j : Nat)) == bt ⟨#[c]⟩ (j : Nat)) = _
  simp only [List.all_cons, List.all_nil, Bool.and_true]
  show (bt s (p + 0) == (c.toNat : Int)) = _
  rw [Int.add_zero]
theorem cut2 (s : ByteArray) (p : Int) (c d : UInt8) (h0 : 0 ≤ p) (hp : p ≤ (s.size : Int)) (hc : c.toNat ≠ 0) (hd : d.toNat ≠ 0) : ((s.extract p.toNat (p + 2).toNat).toList == [c, d]) = (bt s p == (c.toNat : Int) && bt s (p + 1) == (d.toNat : Int)) := by
  have h := cut_is s ⟨#[c, d]⟩ p h0 hp (by
    intro j j0 j1
    have e : ((⟨#[c, d]⟩ : ByteArray).size : Int) = 2 := rfl
    have hj : j = 0 ∨ j = 1 := by omega
    rcases hj with rfl | rfl
    · show ((c.toNat : Nat) : Int) ≠ 0
      omega
    · show ((d.toNat : Nat) : Int) ≠ 0
      omega)
  have e : ((⟨#[c, d]⟩ : ByteArray).size : Int) = 2 := rfl
  have e1 : (⟨#[c, d]⟩ : ByteArray).toList = [c, d] := ByteArray.toList_mk [c, d]
  rw [e] at h
  rw [← e1, list_beq, h]
  show ([0, 1].all fun j : Nat => bt s (p + (j : Nat)) == bt ⟨#[c, d]⟩ (j : Nat)) = _
  simp only [List.all_cons, List.all_nil, Bool.and_true]
  show (bt s (p + 0) == (c.toNat : Int) && bt s (p + 1) == (d.toNat : Int)) = _
  rw [Int.add_zero]
theorem cut3 (s : ByteArray) (p : Int) (c : UInt8) (h0 : 0 ≤ p) (hp : p ≤ (s.size : Int)) (hc : c.toNat ≠ 0) : ((s.extract p.toNat (p + 3).toNat).toList == [c, c, c]) = (bt s p == (c.toNat : Int) && (bt s (p + 1) == (c.toNat : Int) && bt s (p + 2) == (c.toNat : Int))) := by
  have h := cut_is s ⟨#[c, c, c]⟩ p h0 hp (by
    intro j j0 j1
    have e : ((⟨#[c, c, c]⟩ : ByteArray).size : Int) = 3 := rfl
    have hj : j = 0 ∨ j = 1 ∨ j = 2 := by omega
    rcases hj with rfl | rfl | rfl <;> (show ((c.toNat : Nat) : Int) ≠ 0; omega))
  have e : ((⟨#[c, c, c]⟩ : ByteArray).size : Int) = 3 := rfl
  have e1 : (⟨#[c, c, c]⟩ : ByteArray).toList = [c, c, c] := ByteArray.toList_mk [c, c, c]
  rw [e] at h
  rw [← e1, list_beq, h]
  show ([0, 1, 2].all fun j : Nat => bt s (p + (j : Nat)) == bt ⟨#[c, c, c]⟩ (j : Nat)) = _
  simp only [List.all_cons, List.all_nil, Bool.and_true]
  show (bt s (p + 0) == (c.toNat : Int) && (bt s (p + 1) == (c.toNat : Int) && bt s (p + 2) == (c.toNat : Int))) = _
  rw [Int.add_zero]

theorem peekIs0_c (b fb : Nat) (s : ByteArray) (p i : Int) (w : World) (c : Int) (hc : c ≠ 0) (h : At w b fb s p) (hp0 : 0 ≤ p) (hp1 : p ≤ 1000000) (hi0 : 0 ≤ i) (hi1 : i ≤ 1000000) :
    Calls Tryz.prog 73 #[.pointer (some ⟨b, 0, none⟩), .int .i64 i, .int .u8 c] w fun e w' => e = .returned (.bool (bt s (p + i) == c)) ∧ Drawn0 w w' := by
  refine (peekIs_c b fb s p i w c h hp0 hp1 hi0 hi1).mono ?_
  rintro e w' ⟨rfl, hd⟩
  refine ⟨?_, hd⟩
  by_cases hlt : p + i < (s.size : Int)
  · rw [decide_eq_true hlt, Bool.true_and]
  · rw [decide_eq_false hlt, Bool.false_and, bt_far s (p + i) (by omega)]
    congr 2
    exact (beqf (Ne.symm hc)).symm

theorem line_step {s : ByteArray} {q : Int} (h : q < (s.size : Int)) (hc : bt s q ≠ 10) : lineEnd s q = lineEnd s (q + 1) := run_step h (by simpa using hc)
theorem line_stop {s : ByteArray} {q : Int} (hc : bt s q = 10) : lineEnd s q = q := run_stop (by simpa using hc)
theorem line_eof {s : ByteArray} {q : Int} (h : (s.size : Int) ≤ q) : lineEnd s q = q := run_end h

set_option maxHeartbeats 1000000 in
theorem untilLine_c (w : World) (b fb : Nat) (x : St) (s : ByteArray) (hL : IsL w b fb x) (hF : IsF w fb s) (hp0 : 0 ≤ x.pos) (hp1 : x.pos ≤ (s.size : Int)) (hs : (s.size : Int) ≤ 1000000) :
    Calls Tryz.prog 74 #[.pointer (some ⟨b, 0, none⟩), .string ⟨#[10]⟩, .bool false, .bool false] w fun e w' => e = .returned (.bool false) ∧ Ups b w w' ∧ IsL w' b fb { x with pos := min (lineEnd s x.pos + 1) (s.size : Int) } := by
  have hne := hF.ne hL
  have H9 := hL.c9
  go_enter Tryz.func74, Tryz.ntmps74
  go_wp2
  go_loopg [] (((s.size : Int) - x.pos).toNat + 1) (fun kq wr => ∃ q : Int, Aside0 (x.pos ≤ q ∧ q ≤ (s.size : Int) ∧ lineEnd s q = lineEnd s x.pos ∧ ((s.size : Int) - q).toNat < kq) ∧ Ups b w wr ∧ IsL wr b fb { x with pos := q })
  case atStart => exact ⟨x.pos, ⟨Int.le_refl _, hp1, rfl, by omega⟩, Ups.refl _ _, hL⟩
  case round =>
    obtain ⟨q, HA, hU, hLq⟩ := hrel
    have hFq : IsF wr fb s := hF.ups hU hne
    have hat : At wr b fb s q := hLq.at_ hFq
    clear H9
    have hq0 : 0 ≤ q := by have := HA.out.1; omega
    by_cases hq : q < (s.size : Int)
    · have hd : decide ((s.size : Int) ≤ q) = false := decide_eq_false (by omega)
      have hcut := cut1 s q 10 hq0 (by omega) (by decide)
      by_cases hc : bt s q = 10
      · have hc1 : ((s.extract q.toNat (q + 1).toNat).toList == [10]) = true := by rw [hcut, hc]; rfl
        clear hcut
        go_wp2_with (first
          | (go_at_call 69; (with_reducible refine (eof_c b fb s q _ hat).mono ?_); rintro e w' ⟨rfl, ⟨n1, rfl⟩⟩)
          | (go_at_call 88; (with_reducible refine (slice_c b fb s q 0 _ 1 (hat.drewN _) hq0 (by omega) (by omega) (by omega) (by omega) (by omega)).mono ?_); rintro e w' ⟨rfl, ⟨n2, rfl⟩⟩)
          | (go_at_call 72; (with_reducible refine (skipN_c b fb s q 1 _ (hat.drewN _) ((hLq.drewN _).free 9) hq0 (by omega) (by omega) (by omega)).mono ?_); rintro e w' ⟨rfl, rfl⟩))
        go_ret
        have hr : min (lineEnd s x.pos + 1) (s.size : Int) = q + 1 := by rw [← HA.out.2.2.1, line_stop hc]; omega
        exact ⟨rfl, (hU.drewN _).set 9 _, by rw [hr]; exact (hLq.drewN _).set9 (q + 1)⟩
      · have hc1 : ((s.extract q.toNat (q + 1).toNat).toList == [10]) = false := by rw [hcut]; exact beqf hc
        clear hcut
        go_wp2_with (first
          | (go_at_call 69; (with_reducible refine (eof_c b fb s q _ hat).mono ?_); rintro e w' ⟨rfl, ⟨n1, rfl⟩⟩)
          | (go_at_call 88; (with_reducible refine (slice_c b fb s q 0 _ 1 (hat.drewN _) hq0 (by omega) (by omega) (by omega) (by omega) (by omega)).mono ?_); rintro e w' ⟨rfl, ⟨n2, rfl⟩⟩)
          | (go_at_call 78; (with_reducible refine (skip_c b fb s q _ (hat.drewN _) ((hLq.drewN _).free 9) hq0 (by omega) hq).mono ?_); rintro e w' ⟨rfl, ⟨n4, rfl⟩⟩))
        go_roundg (((s.size : Int) - (q + 1)).toNat + 1)
        case measure => have := HA.out.2.2.2; omega
        case rel => exact ⟨q + 1, ⟨by have := HA.out.1; omega, by omega, by rw [← HA.out.2.2.1]; exact (line_step hq hc).symm, by omega⟩, ((hU.drewN _).set 9 _), hLq.set9 (q + 1)⟩
    · have hd : decide ((s.size : Int) ≤ q) = true := decide_eq_true (by omega)
      go_wp2_with (first | (go_at_call 69; (with_reducible refine (eof_c b fb s q _ hat).mono ?_); rintro e w' ⟨rfl, ⟨nd, rfl⟩⟩))
      go_ret
      have hr : min (lineEnd s x.pos + 1) (s.size : Int) = q := by rw [← HA.out.2.2.1, line_eof (by omega)]; have := HA.out.2.1; omega
      exact ⟨rfl, hU.drewN _, by rw [hr]; exact hLq⟩
end Go.Proofs.YtjepdlmcombmcaaGreatDoor.Lx

/- The pure lexical walk (second part): kinds, tokens, steps, all tokens of a text, its statements; how far each of them reaches. Plain laws; no program. -/
namespace Go.Proofs.YtjepdlmcombmcaaGreatDoor.Lx
open Go.RowKit Go.Proofs.YtjepdlmcombmcaaGreatDoorW.PrintWords

/-! ### kinds -/
/-- What a token's kind is to those behind it: a semicolon, the text's end, a dot, one behind which a dot is that of a path, another. -/
inductive Kd where
  | semi | eof | dot | field | other
  deriving DecidableEq
def kEof : List UInt8 := [60, 101, 111, 102, 62]
def kIdent : List UInt8 := [60, 105, 100, 101, 110, 116, 62]
def kParam : List UInt8 := [60, 112, 97, 114, 97, 109, 62]
def kd (k : List UInt8) : Kd :=
  if k = [59] then .semi else if k = kEof then .eof else if k = [46] then .dot
  else if k = kIdent ∨ k = kParam ∨ k = [41] ∨ k = [93] then .field else .other
def isFd (k : Kd) : Bool := decide (k = .field)
theorem kd_field (k : List UInt8) : isFd (kd k) = (k == kIdent || (k == kParam || (k == [41] || k == [93]))) := by
  unfold isFd
  rw [Bool.eq_iff_iff, decide_eq_true_iff]
  simp only [Bool.or_eq_true, beq_iff_eq]
  unfold kd
  constructor
  · intro h
    split at h
    · cases h
    · split at h
      · cases h
      · split at h
        · cases h
        · split at h
          · assumption
          · cases h
  · rintro (rfl | rfl | rfl | rfl) <;> decide
theorem kd_semi (k : List UInt8) : (k == [59]) = decide (kd k = .semi) := by
  rw [Bool.eq_iff_iff, decide_eq_true_iff, beq_iff_eq]
  unfold kd
  constructor
  · rintro rfl; rfl
  · intro h
    (repeat' split at h) <;> first | assumption | cases h
theorem kd_eof (k : List UInt8) : (k == kEof) = decide (kd k = .eof) := by
  rw [Bool.eq_iff_iff, decide_eq_true_iff, beq_iff_eq]
  unfold kd
  constructor
  · rintro rfl; rfl
  · intro h
    (repeat' split at h) <;> first | assumption | cases h
theorem kd_dot (k : List UInt8) : (k == [46]) = decide (kd k = .dot) := by
  rw [Bool.eq_iff_iff, decide_eq_true_iff, beq_iff_eq]
  unfold kd
  constructor
  · rintro rfl; rfl
  · intro h
    (repeat' split at h) <;> first | assumption | cases h
/-- A reserved word is none of the told kinds. -/
theorem kd_kw (k : List UInt8) (h : kw k = true) : kd k = .other := by
  have h1 : ∀ m ∈ kwList, kd m = .other := by decide
  exact h1 k (by simpa [kw] using h)

/-! ### signs -/
def isSign2 (c d : Int) : Bool :=
  (c == 60 && (d == 60 || d == 61 || d == 62)) || (c == 62 && (d == 61 || d == 62)) || (c == 33 && d == 61) || (c == 124 && (d == 62 || d == 124)) || (c == 61 && d == 62) || (c == 45 && d == 62) || (c == 64 && d == 64)
def signs1 : List Int := [40, 41, 91, 93, 123, 125, 44, 59, 58, 46, 64, 61, 60, 62, 43, 45, 42, 47, 38, 94, 37, 124, 126, 36, 63, 92]
def isSign1 (c : Int) : Bool := signs1.contains c
def sgn (c : Int) : Kd := if c = 59 then .semi else if c = 46 then .dot else if c = 41 ∨ c = 93 then .field else .other

/-! ### tokens -/
/-- The token at p (aft: behind one of the kind field): its kind and where it ends; none, if it is none. -/
def tok (s : ByteArray) (aft : Bool) (p : Int) : Option (Kd × Int) :=
  if (s.size : Int) ≤ p then some (.eof, p)
  else if bt s p == 96 then
    match lit s false false p with
    | none => none
    | some e => if e = p + 2 then none else some (.field, e)
  else if isDigit (bt s p) || (bt s p == 46 && !aft && isDigit (bt s (p + 1))) then
    match num s p with
    | none => none
    | some (_, e) => some (.other, e)
  else if bt s p == 64 && isLetter (bt s (p + 1)) then some (.field, run isPart s (p + 1))
  else match pfx s 3 p false false with
    | some (q, raw, bytes) =>
      match lit s raw bytes q with
      | none => none
      | some e => some (.other, e)
    | none =>
      if isLetter (bt s p) then some (if kw (upS (wordOf s p (run isPart s p))).toList = true then .other else .field, run isPart s p)
      else if isSign2 (bt s p) (bt s (p + 1)) then some (.other, p + 2)
      else if isSign1 (bt s p) then some (sgn (bt s p), p + 1)
      else none
/-- The token behind a path's dot. -/
def tokF (s : ByteArray) (p : Int) : Option (Kd × Int) := if isPart (bt s p) then some (.field, run isPart s p) else tok s false p
structure Tk where
  com : Option Int
  pos : Int
  kd : Kd
  e : Int
def stepAt (s : ByteArray) (last : Kd) (dot : Bool) (p a : Int) : Option Tk :=
  match (if dot then tokF s a else tok s (isFd last) a) with
  | none => none
  | some (k, e) => some ⟨firstC s p, a, k, e⟩
/-- The next token behind p. -/
def step (s : ByteArray) (last : Kd) (dot : Bool) (p : Int) : Option Tk :=
  match gap s ((s.size : Int) - p + 1).toNat p with
  | none => none
  | some a => stepAt s last dot p a
def dotOf (last k : Kd) : Bool := decide (k = .dot) && isFd last
/-- All tokens behind p, up to the end; none, if there is a fault. -/
def toks (s : ByteArray) : Nat → Int → Kd → Bool → Option (List Tk)
  | 0, _, _, _ => none
  | n + 1, p, last, dot =>
    match step s last dot p with
    | none => none
    | some t => if t.kd = .eof then some [t] else match toks s n t.e t.kd (dotOf last t.kd) with
      | none => none
      | some l => some (t :: l)
/-- The statements of a text's tokens: where each begins and ends. -/
def stmts : Int → Bool → List Tk → List (Int × Int)
  | _, _, [] => []
  | from_, opn, t :: ts =>
    if opn = false then
      if t.kd = .eof ∧ t.com = none then []
      else if t.kd = .semi ∨ t.kd = .eof then (t.com.getD t.pos, t.pos) :: stmts (t.com.getD t.pos) false ts
      else stmts (t.com.getD t.pos) true ts
    else if t.kd = .semi ∨ t.kd = .eof then (from_, t.pos) :: stmts from_ false ts
    else stmts from_ true ts

/-! ### how far -/
theorem isHex_ne {c : Int} (h : isHex c = true) : c ≠ 0 := by
  rintro rfl; revert h; decide
theorem isOct_ne {c : Int} (h : isOct c = true) : c ≠ 0 := by
  rintro rfl; revert h; decide
theorem isPart_ne {c : Int} (h : isPart c = true) : c ≠ 0 := by
  rintro rfl; revert h; decide
theorem isDigit_ne {c : Int} (h : isDigit c = true) : c ≠ 0 := by
  rintro rfl; revert h; decide
theorem isLetter_ne {c : Int} (h : isLetter c = true) : c ≠ 0 := by
  rintro rfl; revert h; decide
theorem hexes_in (s : ByteArray) : ∀ (k : Nat) (i : Int), 0 ≤ i → i ≤ (s.size : Int) → hexes s k i = true → i + k ≤ (s.size : Int) := by
  intro k
  induction k with
  | zero => intro i _ h1 _; simpa using h1
  | succ n ih =>
    intro i h0 h1 h
    simp only [hexes, Bool.and_eq_true] at h
    have h2 := bt_in (s := s) (i := i) rfl (isHex_ne h.1) h0
    have h3 := ih (i + 1) (by omega) (by omega) h.2
    push_cast
    omega
theorem esc_in (s : ByteArray) (raw bytes : Bool) (i e : Int) (h0 : 0 ≤ i) (h : esc s raw bytes i = some e) : i + 2 ≤ e ∧ e ≤ (s.size : Int) := by
  unfold esc at h
  split at h
  · cases h
  · rename_i hlt
    split at h
    · cases h; omega
    · split at h
      · cases h; omega
      · split at h
        · split at h
          · rename_i hx
            have := hexes_in s 2 (i + 2) (by omega) (by omega) hx
            cases h; omega
          · cases h
        · split at h
          · split at h
            · rename_i hx
              have := hexes_in s 4 (i + 2) (by omega) (by omega) (by simp only [Bool.and_eq_true] at hx; exact hx.1)
              cases h; omega
            · cases h
          · split at h
            · split at h
              · rename_i hx
                have := hexes_in s 8 (i + 2) (by omega) (by omega) (by simp only [Bool.and_eq_true] at hx; exact hx.1)
                cases h; omega
              · cases h
            · split at h
              · split at h
                · rename_i hx
                  simp only [Bool.and_eq_true] at hx
                  have := bt_in (s := s) (i := i + 3) rfl (isOct_ne hx.2) (by omega)
                  cases h; omega
                · cases h
              · cases h
theorem isQ_in {s : ByteArray} {c L i : Int} (hc : c ≠ 0) (hL : L = 1 ∨ L = 3) (h0 : 0 ≤ i) (h : isQ s c L i = true) : i + L ≤ (s.size : Int) := by
  unfold isQ at h
  simp only [Bool.and_eq_true, Bool.or_eq_true, beq_iff_eq] at h
  obtain ⟨h1, h2⟩ := h
  rcases hL with rfl | rfl
  · have := bt_in h1 hc h0; omega
  · rcases h2 with h2 | h2
    · omega
    · have := bt_in h2.2 hc (by omega); omega
theorem quoted_in (s : ByteArray) (c L : Int) (raw bytes : Bool) (hc : c ≠ 0) (hL : L = 1 ∨ L = 3) : ∀ (k : Nat) (i e : Int), 0 ≤ i → quoted s c L raw bytes k i = some e → i + L ≤ e ∧ e ≤ (s.size : Int) := by
  intro k
  induction k with
  | zero => intro i e _ h; cases h
  | succ n ih =>
    intro i e h0 h
    unfold quoted at h
    split at h
    · cases h
    · split at h
      · rename_i hq
        have := isQ_in hc hL h0 hq
        cases h; omega
      · split at h
        · split at h
          · cases h
          · rename_i he
            have h1 := esc_in s raw bytes i _ h0 he
            have h2 := ih _ _ (by omega) h
            omega
        · split at h
          · cases h
          · have h2 := ih _ _ (by omega) h
            omega
theorem markLen_is (s : ByteArray) (c p : Int) : markLen s c p = 1 ∨ markLen s c p = 3 := by
  unfold markLen; split <;> simp
theorem lit_in (s : ByteArray) (raw bytes : Bool) (p e : Int) (h0 : 0 ≤ p) (hc : bt s p ≠ 0) (h : lit s raw bytes p = some e) : p + 2 ≤ e ∧ e ≤ (s.size : Int) := by
  have hL := markLen_is s (bt s p) p
  have := quoted_in s (bt s p) (markLen s (bt s p) p) raw bytes hc hL _ _ _ (by omega) h
  omega
/-- More steps than there are bytes change nothing. -/
theorem quoted_more (s : ByteArray) (c L : Int) (raw bytes : Bool) : ∀ (k : Nat) (i : Int), 0 ≤ i → ((s.size : Int) - i).toNat ≤ k → ∀ m, ((s.size : Int) - i).toNat ≤ m → quoted s c L raw bytes k i = quoted s c L raw bytes m i := by
  intro k
  induction k with
  | zero =>
    intro i h0 h m hm
    cases m with
    | zero => rfl
    | succ m =>
      simp only [quoted]
      rw [if_pos (by omega)]
  | succ n ih =>
    intro i h0 h m hm
    cases m with
    | zero =>
      simp only [quoted]
      rw [if_pos (by omega)]
    | succ m =>
      simp only [quoted]
      split
      · rfl
      · split
        · rfl
        · split
          · split
            · rfl
            · rename_i he
              have h1 := esc_in s raw bytes i _ h0 he
              exact ih _ (by omega) (by omega) m (by omega)
          · split
            · rfl
            · exact ih _ (by omega) (by omega) m (by omega)
theorem num_in (s : ByteArray) (p : Int) (f : Bool) (e : Int) (h0 : 0 ≤ p) (hp : p < (s.size : Int)) (hd : isDigit (bt s p) = true ∨ bt s p = 46) (h : num s p = some (f, e)) : p < e ∧ e ≤ (s.size : Int) := by
  have hm : p < mant s p ∧ mant s p ≤ (s.size : Int) := by
    unfold mant
    have g1 := run_ge isDigit s p
    have g2 := run_le (p := isDigit) (s := s) (i := p) (by omega)
    split
    · rename_i hx
      unfold dotted at hx
      have h1 := bt_in (beq_iff_eq.1 hx) (by omega) (by omega)
      have g3 := run_ge isDigit s (run isDigit s p + 1)
      have g4 := run_le (p := isDigit) (s := s) (i := run isDigit s p + 1) (by omega)
      omega
    · rename_i hx
      unfold dotted at hx
      rcases hd with hd | hd
      · have g5 := run_step hp hd
        have g6 := run_ge isDigit s (p + 1)
        omega
      · exfalso
        apply hx
        have : run isDigit s p = p := run_stop (by rw [hd]; decide)
        rw [this, hd]; rfl
  unfold num at h
  split at h
  · rename_i hx
    unfold hexPre at hx
    simp only [Bool.and_eq_true, Bool.or_eq_true, beq_iff_eq] at hx
    have h1 : p + 1 < (s.size : Int) := by
      rcases hx.2 with h | h
      · exact bt_in h (by omega) (by omega)
      · exact bt_in h (by omega) (by omega)
    have g1 := run_ge isHex s (p + 2)
    have g2 := run_le (p := isHex) (s := s) (i := p + 2) (by omega)
    split at h
    · cases h
    · cases h; omega
  · split at h
    · split at h
      · cases h
      · rename_i he
        split at h
        · cases h
        · cases h
          unfold expo at he
          generalize hk : (if (bt s (mant s p + 1) == 43 || bt s (mant s p + 1) == 45) = true then mant s p + 2 else mant s p + 1) = k at he
          have hk1 : mant s p < k := by rw [← hk]; split <;> omega
          split at he
          · rename_i hx
            injection he with he
            have h1 := bt_in (s := s) rfl (isDigit_ne hx) (by omega)
            have g1 := run_ge isDigit s k
            have g2 := run_le (p := isDigit) (s := s) (i := k) (by omega)
            omega
          · cases he
    · split at h
      · cases h
      · cases h; exact hm
theorem pfx_in (s : ByteArray) : ∀ (k : Nat) (p : Int) (r b : Bool) (q : Int) (raw bytes : Bool), 0 ≤ p → pfx s k p r b = some (q, raw, bytes) → p ≤ q ∧ q < (s.size : Int) ∧ isMark (bt s q) = true := by
  intro k
  induction k with
  | zero => intro p r b q raw bytes _ h; cases h
  | succ n ih =>
    intro p r b q raw bytes h0 h
    unfold pfx at h
    split at h
    · rename_i hm
      cases h
      refine ⟨Int.le_refl _, bt_in (s := s) rfl ?_ h0, hm⟩
      intro hz
      rw [hz] at hm
      revert hm; decide
    · split at h
      · have := ih _ _ _ _ _ _ (by omega) h
        exact ⟨by omega, this.2⟩
      · split at h
        · have := ih _ _ _ _ _ _ (by omega) h
          exact ⟨by omega, this.2⟩
        · cases h
theorem sign_in (s : ByteArray) (p : Int) (h0 : 0 ≤ p) (h : isSign2 (bt s p) (bt s (p + 1)) = true) : p + 2 ≤ (s.size : Int) := by
  have : bt s (p + 1) ≠ 0 := by
    intro hz
    rw [hz] at h
    unfold isSign2 at h
    simp at h
  have := bt_in (s := s) (i := p + 1) rfl this (by omega)
  omega
theorem tok_in (s : ByteArray) (aft : Bool) (p e : Int) (k : Kd) (h0 : 0 ≤ p) (hp : p ≤ (s.size : Int)) (h : tok s aft p = some (k, e)) : p ≤ e ∧ e ≤ (s.size : Int) ∧ (p < (s.size : Int) → p < e) := by
  unfold tok at h
  split at h
  · cases h; omega
  · rename_i hlt
    have hlt' : p < (s.size : Int) := by omega
    split at h
    · rename_i hc
      split at h
      · cases h
      · rename_i he
        have := lit_in s _ _ p _ h0 (by rw [beq_iff_eq.1 hc]; decide) he
        split at h
        · cases h
        · cases h; omega
    · split at h
      · rename_i hd
        split at h
        · cases h
        · rename_i he
          have := num_in s p _ _ h0 hlt' (by simp only [Bool.or_eq_true, Bool.and_eq_true, beq_iff_eq] at hd; rcases hd with hd | hd; exact .inl hd; exact .inr hd.1.1) he
          cases h; omega
      · split at h
        · rename_i hd
          simp only [Bool.and_eq_true] at hd
          have h1 := bt_in (s := s) (i := p + 1) rfl (isLetter_ne hd.2) (by omega)
          have g1 := run_ge isPart s (p + 1)
          have g2 := run_le (p := isPart) (s := s) (i := p + 1) (by omega)
          cases h; omega
        · split at h
          · rename_i hx
            have h1 := pfx_in s _ _ _ _ _ _ _ h0 hx
            split at h
            · cases h
            · rename_i he
              have := lit_in s _ _ _ _ (by omega) (by intro hz; rw [hz] at h1; exact absurd h1.2.2 (by decide)) he
              cases h; omega
          · split at h
            · rename_i hl
              have hq : isPart (bt s p) = true := by
                have h1 : 97 ≤ bt s p ∧ bt s p ≤ 122 ∨ 65 ≤ bt s p ∧ bt s p ≤ 90 ∨ bt s p = 95 := of_decide_eq_true hl
                exact decide_eq_true (by omega)
              have g0 := run_step hlt' hq
              have g1 := run_ge isPart s (p + 1)
              have g2 := run_le (p := isPart) (s := s) (i := p) (by omega)
              cases h; omega
            · split at h
              · rename_i hx
                have := sign_in s p h0 hx
                cases h; omega
              · split at h
                · cases h; omega
                · cases h
theorem tokF_in (s : ByteArray) (p e : Int) (k : Kd) (h0 : 0 ≤ p) (hp : p ≤ (s.size : Int)) (h : tokF s p = some (k, e)) : p ≤ e ∧ e ≤ (s.size : Int) ∧ (p < (s.size : Int) → p < e) := by
  unfold tokF at h
  split at h
  · rename_i hq
    have h1 := bt_in (s := s) rfl (isPart_ne hq) h0
    have g0 := run_step h1 hq
    have g1 := run_ge isPart s (p + 1)
    have g2 := run_le (p := isPart) (s := s) (i := p) (by omega)
    cases h; omega
  · exact tok_in s false p e k h0 hp h
end Go.Proofs.YtjepdlmcombmcaaGreatDoor.Lx

/- The pure lexical walk (third part): gaps and steps reach forward; the program's own way to split a text gives the told statements. Plain laws; no program. -/
namespace Go.Proofs.YtjepdlmcombmcaaGreatDoor.Lx
open Go.RowKit Go.Proofs.YtjepdlmcombmcaaGreatDoorW.PrintWords

theorem starAt_le (s : ByteArray) (p : Int) (h : p ≤ (s.size : Int)) : starAt s p ≤ (s.size : Int) := upto_le h
theorem starAt_ge (s : ByteArray) (p : Int) : p ≤ starAt s p := upto_ge _ _ _
/-- Where the search stops within the text, the sign stands. -/
theorem scanTo_at (Q : Int → Bool) (n : Int) : ∀ (k : Nat) (i : Int), (n - i).toNat ≤ k → scanTo Q n k i < n → Q (scanTo Q n k i) = false := by
  intro k
  induction k with
  | zero => intro i h1 h2; simp only [scanTo] at h2; omega
  | succ k ih =>
    intro i h1 h2
    simp only [scanTo] at h2 ⊢
    split
    · rename_i hi
      rw [if_pos hi] at h2
      split
      · rename_i hq
        rw [if_pos hq] at h2
        exact ih (i + 1) (by omega) h2
      · rename_i hq
        simpa using hq
    · rename_i hi
      rw [if_neg hi] at h2
      omega
theorem upto_at {Q : Int → Bool} {n i : Int} (h : upto Q n i < n) : Q (upto Q n i) = false := scanTo_at Q n _ i (Nat.le_refl _) h
theorem comm_in (s : ByteArray) (p e : Int) (h0 : 0 ≤ p) (hp : p ≤ (s.size : Int)) (h : comm s p = some e) : p ≤ e ∧ e ≤ (s.size : Int) ∧ (e ≠ p → p < e) := by
  unfold comm at h
  split at h
  · rename_i hl
    have hb : bt s p ≠ 0 := by
      intro hz
      unfold isLineC at hl
      rw [hz] at hl
      simp at hl
    have h1 := bt_in (s := s) rfl hb h0
    have g1 := run_ge (fun c => c != 10) s p
    have g2 := run_le (p := fun c => c != 10) (s := s) (i := p) (by omega)
    unfold lineEnd at h
    injection h with h
    omega
  · split at h
    · split at h
      · rename_i hb hs
        have g1 := starAt_ge s (p + 2)
        have hz : (!(bt s (starAt s (p + 2)) == 42 && bt s (starAt s (p + 2) + 1) == 47)) = false := upto_at (Q := fun j => !(bt s j == 42 && bt s (j + 1) == 47)) hs
        simp only [Bool.not_eq_false', Bool.and_eq_true, beq_iff_eq] at hz
        have g2 := bt_in hz.2 (by omega) (by omega)
        injection h with h
        omega
      · cases h
    · injection h with h
      omega
theorem gap_in (s : ByteArray) : ∀ (n : Nat) (p a : Int), 0 ≤ p → p ≤ (s.size : Int) → gap s n p = some a → run isSp s p ≤ a ∧ a ≤ (s.size : Int) ∧ (comm s (run isSp s p) ≠ some (run isSp s p) → run isSp s p < a) := by
  intro n
  induction n with
  | zero => intro p a _ _ h; cases h
  | succ n ih =>
    intro p a h0 hp h
    have g1 := run_ge isSp s p
    have g2 := run_le (p := isSp) (s := s) (i := p) hp
    unfold gap at h
    split at h
    · cases h
    · rename_i e hc
      have hr := comm_in s _ e (by omega) g2 hc
      split at h
      · rename_i he
        injection h with h
        subst h
        exact ⟨by omega, by omega, fun hn => absurd (by rw [hc, he]) hn⟩
      · rename_i he
        have := ih e a (by omega) (by omega) h
        have g3 := run_ge isSp s e
        have := hr.2.2 he
        exact ⟨by omega, by omega, fun _ => by omega⟩
theorem gap_more (s : ByteArray) : ∀ (n : Nat) (p : Int), 0 ≤ p → p ≤ (s.size : Int) → ((s.size : Int) - p).toNat < n → ∀ m, ((s.size : Int) - p).toNat < m → gap s n p = gap s m p := by
  intro n
  induction n with
  | zero => intro p _ _ h; omega
  | succ n ih =>
    intro p h0 hp h m hm
    cases m with
    | zero => omega
    | succ m =>
      have g1 := run_ge isSp s p
      have g2 := run_le (p := isSp) (s := s) (i := p) hp
      simp only [gap]
      split
      · rfl
      · rename_i e hc
        have hr := comm_in s _ e (by omega) g2 hc
        split
        · rfl
        · rename_i he
          have := hr.2.2 he
          exact ih e (by omega) (by omega) (by omega) m (by omega)
/-- How a step moves. -/
structure Moves (s : ByteArray) (p : Int) (t : Tk) : Prop where
  pos : p ≤ t.pos
  top : t.e ≤ (s.size : Int)
  le : t.pos ≤ t.e
  com : ∀ c, t.com = some c → p ≤ c ∧ c < t.pos
  more : t.kd ≠ .eof → t.pos < t.e
  fin : t.kd = .eof → t.pos = (s.size : Int) ∧ t.e = (s.size : Int)
theorem kd_ne_eof_sgn (c : Int) : sgn c ≠ .eof := by
  unfold sgn
  (repeat' split) <;> decide
theorem tok_eof_iff (s : ByteArray) (aft : Bool) (p e : Int) (k : Kd) (h : tok s aft p = some (k, e)) : (k = .eof ↔ (s.size : Int) ≤ p) ∧ (k = .eof → e = p) := by
  unfold tok at h
  split at h
  · rename_i hp
    cases h
    exact ⟨⟨fun _ => hp, fun _ => rfl⟩, fun _ => rfl⟩
  · rename_i hp
    have key : k ≠ .eof := by
      split at h
      · split at h
        · cases h
        · split at h
          · cases h
          · cases h; decide
      · split at h
        · split at h
          · cases h
          · cases h; decide
        · split at h
          · cases h; decide
          · split at h
            · split at h
              · cases h
              · cases h; decide
            · split at h
              · cases h
                split <;> decide
              · split at h
                · cases h; decide
                · split at h
                  · cases h; exact kd_ne_eof_sgn _
                  · cases h
    exact ⟨⟨fun hk => absurd hk key, fun hq => absurd hq hp⟩, fun hk => absurd hk key⟩
theorem tokF_eof_iff (s : ByteArray) (p e : Int) (k : Kd) (h0 : 0 ≤ p) (h : tokF s p = some (k, e)) : (k = .eof ↔ (s.size : Int) ≤ p) ∧ (k = .eof → e = p) := by
  unfold tokF at h
  split at h
  · rename_i hq
    have h1 := bt_in (s := s) rfl (isPart_ne hq) h0
    cases h
    exact ⟨⟨fun hk => absurd hk (by decide), fun hq => absurd hq (by omega)⟩, fun hk => absurd hk (by decide)⟩
  · exact tok_eof_iff s false p e k h
theorem stepAt_moves (s : ByteArray) (last : Kd) (dot : Bool) (p a : Int) (t : Tk) (h0 : 0 ≤ p) (hpa : p ≤ a) (ha : a ≤ (s.size : Int)) (hc : ∀ c, firstC s p = some c → p ≤ c ∧ c < a) (h : stepAt s last dot p a = some t) : Moves s p t := by
  have key : ∀ k e, (if dot then tokF s a else tok s (isFd last) a) = some (k, e) → (a ≤ e ∧ e ≤ (s.size : Int) ∧ (a < (s.size : Int) → a < e)) ∧ (k = .eof ↔ (s.size : Int) ≤ a) ∧ (k = .eof → e = a) := by
    intro k e hk
    split at hk
    · exact ⟨tokF_in s a e k (by omega) ha hk, tokF_eof_iff s a e k (by omega) hk⟩
    · exact ⟨tok_in s _ a e k (by omega) ha hk, tok_eof_iff s _ a e k hk⟩
  unfold stepAt at h
  split at h
  · cases h
  · rename_i k e hk
    obtain ⟨h1, h2, h3⟩ := key k e hk
    injection h with h
    subst h
    refine ⟨hpa, h1.2.1, h1.1, hc, fun hn => ?_, fun he => ?_⟩
    · show a < e
      apply h1.2.2
      by_cases hlt : a < (s.size : Int)
      · exact hlt
      · exact absurd (h2.2 (by omega)) hn
    · have := h2.1 he
      have := h3 he
      show a = (s.size : Int) ∧ e = (s.size : Int)
      omega
theorem step_moves (s : ByteArray) (last : Kd) (dot : Bool) (p : Int) (t : Tk) (h0 : 0 ≤ p) (hp : p ≤ (s.size : Int)) (h : step s last dot p = some t) : Moves s p t := by
  unfold step at h
  split at h
  · cases h
  · rename_i a hg
    have g1 := run_ge isSp s p
    have hr := gap_in s _ p a h0 hp hg
    refine stepAt_moves s last dot p a t h0 (by omega) hr.2.1 ?_ h
    intro c hc
    unfold firstC at hc
    split at hc
    · cases hc
    · rename_i hn
      injection hc with hc
      subst hc
      exact ⟨g1, hr.2.2 hn⟩
/-- At the text's end there is the end alone. -/
theorem step_end (s : ByteArray) (last : Kd) (dot : Bool) (hd : dot = false) : step s last dot (s.size : Int) = some ⟨none, (s.size : Int), .eof, (s.size : Int)⟩ := by
  subst hd
  have hr : run isSp s (s.size : Int) = (s.size : Int) := run_end (Int.le_refl _)
  have hb : bt s (s.size : Int) = 0 := bt_far s _ (by omega)
  have hcm : comm s (s.size : Int) = some (s.size : Int) := by
    unfold comm isLineC isBlockC
    rw [hb]
    rfl
  have hg : gap s ((s.size : Int) - (s.size : Int) + 1).toNat (s.size : Int) = some (s.size : Int) := by
    have : ((s.size : Int) - (s.size : Int) + 1).toNat = 1 := by omega
    rw [this]
    simp only [gap, hr, hcm, if_pos]
  unfold step
  rw [hg]
  have ht : tok s (isFd last) (s.size : Int) = some (.eof, (s.size : Int)) := by
    unfold tok
    rw [if_pos (Int.le_refl _)]
  simp only [stepAt, Bool.false_eq_true, if_false, ht, firstC, hr, hcm, if_pos]

/-- As the program splits: behind a semicolon (semi) that stands at cp, or not; the statement under way begins at first. -/
def isplit (s : ByteArray) : Nat → Bool → Int → Int → Int → Kd → Bool → Option (List (Int × Int))
  | 0, _, _, _, _, _, _ => none
  | n + 1, semi, cp, first, p, last, dot =>
    match step s last dot p with
    | none => none
    | some t =>
      if semi then match isplit s n (decide (t.kd = .semi)) t.pos (t.com.getD t.pos) t.e t.kd (dotOf last t.kd) with
        | none => none
        | some l => some ((first, cp) :: l)
      else if t.kd = .eof then some (if t.pos = first then [] else [(first, t.pos)])
      else isplit s n (decide (t.kd = .semi)) t.pos first t.e t.kd (dotOf last t.kd)
theorem dotOf_ne {last k : Kd} (h : k ≠ .dot) : dotOf last k = false := by
  unfold dotOf
  rw [decide_eq_false h]
  rfl
theorem isplit_is (s : ByteArray) : ∀ (n : Nat) (p : Int), 0 ≤ p → p ≤ (s.size : Int) → ((s.size : Int) - p).toNat + 2 ≤ n → ∀ (m : Nat), ((s.size : Int) - p).toNat + 1 ≤ m → ∀ (last : Kd) (dot : Bool) (cp first : Int),
    (∀ x, isplit s n true cp first p last dot = (match toks s m p last dot with | none => none | some l => some ((first, cp) :: stmts x false l))) ∧
    ((first < p ∨ p < (s.size : Int)) → first ≤ p → isplit s n false cp first p last dot = (match toks s m p last dot with | none => none | some l => some (stmts first true l))) := by
  intro n
  induction n with
  | zero => intro p _ _ h; omega
  | succ n ih =>
    intro p h0 hp hn m hm last dot cp first
    obtain ⟨m, rfl⟩ : ∃ k, m = k + 1 := ⟨m - 1, by omega⟩
    simp only [isplit, toks]
    cases hst : step s last dot p with
    | none => exact ⟨fun _ => rfl, fun _ _ => rfl⟩
    | some t =>
      have hM := step_moves s last dot p t h0 hp hst
      have h1 := hM.pos
      have h2 := hM.le
      have h3 := hM.top
      simp only [if_true, Bool.false_eq_true, if_false]
      constructor
      · intro x
        by_cases he : t.kd = .eof
        · obtain ⟨f1, f2⟩ := hM.fin he
          have hs : decide (t.kd = Kd.semi) = false := by rw [he]; rfl
          have hd : dotOf last t.kd = false := dotOf_ne (by rw [he]; decide)
          rw [hs, hd, if_pos he]
          obtain ⟨n, rfl⟩ : ∃ k, n = k + 1 := ⟨n - 1, by omega⟩
          have hz : isplit s (n + 1) false t.pos (t.com.getD t.pos) t.e t.kd false = some (if t.com = none then [] else [(t.com.getD t.pos, t.pos)]) := by
            simp only [isplit, f2]
            rw [step_end s t.kd false rfl]
            simp only [Bool.false_eq_true, if_false, if_true]
            cases hc : t.com with
            | none => simp [f1]
            | some c =>
              have := (hM.com c hc).2
              simp only [Option.getD_some]
              rw [if_neg (by omega), if_neg (by simp), f1]
          rw [hz]
          simp only [stmts, he, true_and, if_true]
          cases hc : t.com with
          | none => simp
          | some c => simp
        · rw [if_neg he]
          have h4 := hM.more he
          have h5 : t.com.getD t.pos < t.e ∧ t.com.getD t.pos ≤ t.e := by
            cases hc : t.com with
            | none => simp; omega
            | some c => have := (hM.com c hc).2; simp; omega
          have hI := ih t.e (by omega) h3 (by omega) m (by omega) t.kd (dotOf last t.kd) t.pos (t.com.getD t.pos)
          by_cases hs : t.kd = .semi
          · rw [decide_eq_true hs, hI.1 (t.com.getD t.pos)]
            cases toks s m t.e t.kd (dotOf last t.kd) with
            | none => rfl
            | some l => simp [stmts, hs]
          · rw [decide_eq_false hs, hI.2 (.inl h5.1) h5.2]
            cases toks s m t.e t.kd (dotOf last t.kd) with
            | none => rfl
            | some l => simp [stmts, hs, he]
      · intro hf hfp
        by_cases he : t.kd = .eof
        · obtain ⟨f1, f2⟩ := hM.fin he
          rw [if_pos he, if_pos he, if_neg (by omega)]
          simp [stmts, he]
        · rw [if_neg he, if_neg he]
          have h4 := hM.more he
          have hI := ih t.e (by omega) h3 (by omega) m (by omega) t.kd (dotOf last t.kd) t.pos first
          by_cases hs : t.kd = .semi
          · rw [decide_eq_true hs, hI.1 first]
            cases toks s m t.e t.kd (dotOf last t.kd) with
            | none => rfl
            | some l => simp [stmts, hs]
          · rw [decide_eq_false hs, hI.2 (.inl (by omega)) (by omega)]
            cases toks s m t.e t.kd (dotOf last t.kd) with
            | none => rfl
            | some l => simp [stmts, hs, he]
def fix0 (l : List (Int × Int)) : List (Int × Int) := if l = [] then [(0, 0)] else l
theorem stmts_ne (f : Int) (l : List Tk) (h : l ≠ []) (h1 : ∃ t ∈ l, t.kd = .eof) : stmts f true l ≠ [] := by
  induction l generalizing f with
  | nil => exact absurd rfl h
  | cons t ts ih =>
    simp only [stmts]
    rw [if_neg (by decide)]
    split
    · simp
    · rename_i hk
      obtain ⟨u, hu, he⟩ := h1
      rcases List.mem_cons.1 hu with rfl | hu
      · exact absurd (.inr he) hk
      · exact ih f (by intro hn; rw [hn] at hu; cases hu) ⟨u, hu, he⟩
theorem toks_eof (s : ByteArray) : ∀ (m : Nat) (p : Int) (last : Kd) (dot : Bool) (l : List Tk), toks s m p last dot = some l → l ≠ [] ∧ ∃ t ∈ l, t.kd = .eof := by
  intro m
  induction m with
  | zero => intro p last dot l h; cases h
  | succ m ih =>
    intro p last dot l h
    simp only [toks] at h
    split at h
    · cases h
    · rename_i t _
      split at h
      · rename_i he
        injection h with h
        subst h
        exact ⟨by simp, t, by simp, he⟩
      · split at h
        · cases h
        · rename_i l' hl
          injection h with h
          subst h
          obtain ⟨_, u, hu, he⟩ := ih _ _ _ _ hl
          exact ⟨by simp, u, by simp [hu], he⟩
/-- The program's way, with one empty statement where there is none, is the told way. -/
theorem isplit_all (s : ByteArray) (n m : Nat) (hn : s.size + 2 ≤ n) (hm : s.size + 1 ≤ m) (cp : Int) :
    (match isplit s n false cp 0 0 .other false with | none => none | some l => some (fix0 l)) = (match toks s m 0 .other false with | none => none | some l => some (stmts 0 true l)) := by
  by_cases hz : s.size = 0
  · have hst : step s .other false 0 = some ⟨none, 0, .eof, 0⟩ := by
      have := step_end s .other false rfl
      rw [hz] at this
      exact this
    obtain ⟨n, rfl⟩ : ∃ k, n = k + 1 := ⟨n - 1, by omega⟩
    obtain ⟨m, rfl⟩ : ∃ k, m = k + 1 := ⟨m - 1, by omega⟩
    simp [isplit, toks, hst, stmts, fix0]
  · have h := (isplit_is s n 0 (Int.le_refl _) (by omega) (by omega) m (by omega) .other false cp 0).2 (.inr (by omega)) (Int.le_refl _)
    rw [h]
    cases ht : toks s m 0 .other false with
    | none => rfl
    | some l =>
      have he := toks_eof s m _ _ _ l ht
      have := stmts_ne 0 l he.1 he.2
      simp only [fix0, if_neg this]
end Go.Proofs.YtjepdlmcombmcaaGreatDoor.Lx

/- The reference's small readers: a part at a place, blanks, comments, runs of letters. Conditions: the place is none below 0; the text is no longer than a million bytes. -/
namespace Go.Proofs.YtjepdlmcombmcaaGreatDoor.Lx
open Go.RowKit Go.Proofs.YtjepdlmcombmcaaGreatDoorW.PrintWords

theorem starts_c (s t : ByteArray) (p : Int) (w : World) (h0 : 0 ≤ p) (h1 : p ≤ 1000002) (hs : (s.size : Int) ≤ 1000000) (ht : t.size ≤ 4) :
    Calls Tryz.prog 15 #[.string s, .int .i64 p, .string t] w fun e w' => e = .returned (.bool (decide (p ≤ (s.size : Int)) && ((s.extract p.toNat (p + t.size).toNat).toList == t.toList))) ∧ w' = w := by
  have w1 := iwrap ((s.size : Int) - p) (by omega) (by omega)
  have w2 := iwrap (p + t.size) (by omega) (by omega)
  have e0 : 0 ≤ p + t.size := by omega
  by_cases hp : p ≤ (s.size : Int)
  · have hd : decide (p ≤ (s.size : Int)) = true := decide_eq_true hp
    by_cases hz : (t.size : Int) ≤ (s.size : Int) - p
    · have hd2 : decide ((t.size : Int) ≤ (s.size : Int) - p) = true := decide_eq_true hz
      have e1 : p + t.size ≤ (s.size : Int) := by omega
      have e2 : p ≤ p + t.size := by omega
      go_enter Tryz.func15, Tryz.ntmps15
      go_wp2
      go_ret
      exact ⟨ret_bool (by rw [hd]; simp), rfl⟩
    · have hd2 : decide ((t.size : Int) ≤ (s.size : Int) - p) = false := decide_eq_false hz
      have hne : ((s.extract p.toNat (p + t.size).toNat).toList == t.toList) = false := by
        rw [beq_eq_false_iff_ne]
        intro h
        have h2 : (s.extract p.toNat (p + t.size).toNat) = t := by
          have := list_beq (s.extract p.toNat (p + t.size).toNat) t
          rw [h] at this
          simpa using this.symm
        have h3 : (s.extract p.toNat (p + t.size).toNat).size = t.size := by rw [h2]
        rw [ByteArray.size_extract] at h3
        omega
      go_enter Tryz.func15, Tryz.ntmps15
      go_wp2
      go_ret
      exact ⟨ret_bool (by simp), rfl⟩
  · have hd : decide (p ≤ (s.size : Int)) = false := decide_eq_false hp
    go_enter Tryz.func15, Tryz.ntmps15
    go_wp2
    go_ret
    exact ⟨ret_bool (by simp), rfl⟩
theorem starts1_c (s : ByteArray) (c : UInt8) (n p : Int) (w : World) (hn : (c.toNat : Int) = n) (hc : c.toNat ≠ 0) (h0 : 0 ≤ p) (h1 : p ≤ 1000002) (hs : (s.size : Int) ≤ 1000000) :
    Calls Tryz.prog 15 #[.string s, .int .i64 p, .string ⟨#[c]⟩] w fun e w' => e = .returned (.bool (bt s p == n)) ∧ w' = w := by
  refine (starts_c s ⟨#[c]⟩ p w h0 h1 hs (by show 1 ≤ 4; omega)).mono ?_
  rintro e w' ⟨rfl, rfl⟩
  refine ⟨ret_bool ?_, rfl⟩
  have e1 : (⟨#[c]⟩ : ByteArray).toList = [c] := ByteArray.toList_mk [c]
  by_cases hp : p ≤ (s.size : Int)
  · rw [e1, decide_eq_true hp, Bool.true_and]
    show ((s.extract p.toNat (p + 1).toNat).toList == [c]) = _
    rw [cut1 s p c h0 hp hc, hn]
  · rw [decide_eq_false hp, Bool.false_and, bt_far s p (by omega)]
    exact (beqf (by omega)).symm
theorem starts2_c (s : ByteArray) (c d : UInt8) (n m p : Int) (w : World) (hn : (c.toNat : Int) = n) (hm : (d.toNat : Int) = m) (hc : c.toNat ≠ 0) (hd : d.toNat ≠ 0) (h0 : 0 ≤ p) (h1 : p ≤ 1000002) (hs : (s.size : Int) ≤ 1000000) :
    Calls Tryz.prog 15 #[.string s, .int .i64 p, .string ⟨#[c, d]⟩] w fun e w' => e = .returned (.bool (bt s p == n && bt s (p + 1) == m)) ∧ w' = w := by
  refine (starts_c s ⟨#[c, d]⟩ p w h0 h1 hs (by show 2 ≤ 4; omega)).mono ?_
  rintro e w' ⟨rfl, rfl⟩
  refine ⟨ret_bool ?_, rfl⟩
  have e1 : (⟨#[c, d]⟩ : ByteArray).toList = [c, d] := ByteArray.toList_mk [c, d]
  by_cases hp : p ≤ (s.size : Int)
  · rw [e1, decide_eq_true hp, Bool.true_and]
    show ((s.extract p.toNat (p + 2).toNat).toList == [c, d]) = _
    rw [cut2 s p c d h0 hp hc hd, hn, hm]
  · rw [decide_eq_false hp, Bool.false_and, bt_far s p (by omega)]
    rw [show ((0 : Int) == n) = false from beqf (by omega), Bool.false_and]
theorem starts3_c (s : ByteArray) (c : UInt8) (n p : Int) (w : World) (hn : (c.toNat : Int) = n) (hc : c.toNat ≠ 0) (h0 : 0 ≤ p) (h1 : p ≤ 1000002) (hs : (s.size : Int) ≤ 1000000) :
    Calls Tryz.prog 15 #[.string s, .int .i64 p, .string ⟨#[c, c, c]⟩] w fun e w' => e = .returned (.bool (bt s p == n && (bt s (p + 1) == n && bt s (p + 2) == n))) ∧ w' = w := by
  refine (starts_c s ⟨#[c, c, c]⟩ p w h0 h1 hs (by show 3 ≤ 4; omega)).mono ?_
  rintro e w' ⟨rfl, rfl⟩
  refine ⟨ret_bool ?_, rfl⟩
  have e1 : (⟨#[c, c, c]⟩ : ByteArray).toList = [c, c, c] := ByteArray.toList_mk [c, c, c]
  by_cases hp : p ≤ (s.size : Int)
  · rw [e1, decide_eq_true hp, Bool.true_and]
    show ((s.extract p.toNat (p + 3).toNat).toList == [c, c, c]) = _
    rw [cut3 s p c h0 hp hc, hn]
  · rw [decide_eq_false hp, Bool.false_and, bt_far s p (by omega)]
    rw [show ((0 : Int) == n) = false from beqf (by omega), Bool.false_and]

theorem lBlanks_c (s : ByteArray) (p : Int) (w : World) (h0 : 0 ≤ p) (h1 : p ≤ (s.size : Int)) (hs : (s.size : Int) ≤ 1000000) :
    Calls Tryz.prog 27 #[.string s, .int .i64 p] w fun e w' => e = .returned (.int .i64 (run isBlank s p)) ∧ w' = w := by
  go_enter Tryz.func27, Tryz.ntmps27
  go_wp2
  go_loopg [1] (((s.size : Int) - p).toNat + 1) (fun kq v1 wr => ∃ q : Int, v1 = .int .i64 q ∧ Aside0 (p ≤ q ∧ q ≤ (s.size : Int) ∧ run isBlank s q = run isBlank s p ∧ ((s.size : Int) - q).toNat < kq) ∧ wr = w)
  case atStart => exact ⟨p, rfl, ⟨Int.le_refl _, h1, rfl, by omega⟩, rfl⟩
  case round =>
    obtain ⟨q, rfl, HA, rfl⟩ := hrel
    have hq0 : 0 ≤ q := by have := HA.out.1; omega
    by_cases hq : q < (s.size : Int)
    · have hd : decide (q < (s.size : Int)) = true := decide_eq_true hq
      have hx := bt_at s q
      cases hc : isBlank (bt s q) with
      | true =>
        have HC := Aside0.mk hc
        go_wp2_with (first | (go_at_call 36; (with_reducible refine (specBlank_c _ _).mono ?_); rintro e w' ⟨rfl, rfl⟩))
        go_roundg (((s.size : Int) - (q + 1)).toNat + 1)
        case measure => have := HA.out.2.2.2; omega
        case rel => exact ⟨q + 1, rfl, ⟨by have := HA.out.1; omega, by omega, by rw [← HA.out.2.2.1]; exact (run_step hq HC.out).symm, by omega⟩, rfl⟩
      | false =>
        have HC := Aside0.mk hc
        go_wp2_with (first | (go_at_call 36; (with_reducible refine (specBlank_c _ _).mono ?_); rintro e w' ⟨rfl, rfl⟩))
        go_ret
        exact ⟨ret_int (by rw [← HA.out.2.2.1]; exact (run_stop HC.out).symm), rfl⟩
    · have hd : decide (q < (s.size : Int)) = false := decide_eq_false hq
      go_wp2
      go_ret
      exact ⟨ret_int (by rw [← HA.out.2.2.1]; exact (run_end (by omega)).symm), rfl⟩
theorem lParts_c (s : ByteArray) (p : Int) (w : World) (h0 : 0 ≤ p) (h1 : p ≤ (s.size : Int)) (hs : (s.size : Int) ≤ 1000000) :
    Calls Tryz.prog 38 #[.string s, .int .i64 p] w fun e w' => e = .returned (.int .i64 (run isPart s p)) ∧ w' = w := by
  go_enter Tryz.func38, Tryz.ntmps38
  go_wp2
  go_loopg [1] (((s.size : Int) - p).toNat + 1) (fun kq v1 wr => ∃ q : Int, v1 = .int .i64 q ∧ Aside0 (p ≤ q ∧ q ≤ (s.size : Int) ∧ run isPart s q = run isPart s p ∧ ((s.size : Int) - q).toNat < kq) ∧ wr = w)
  case atStart => exact ⟨p, rfl, ⟨Int.le_refl _, h1, rfl, by omega⟩, rfl⟩
  case round =>
    obtain ⟨q, rfl, HA, rfl⟩ := hrel
    have hq0 : 0 ≤ q := by have := HA.out.1; omega
    by_cases hq : q < (s.size : Int)
    · have hd : decide (q < (s.size : Int)) = true := decide_eq_true hq
      have hx := bt_at s q
      cases hc : isPart (bt s q) with
      | true =>
        have HC := Aside0.mk hc
        go_wp2_with (first | (go_at_call 37; (with_reducible refine (specIdentPart_c _ _).mono ?_); rintro e w' ⟨rfl, rfl⟩))
        go_roundg (((s.size : Int) - (q + 1)).toNat + 1)
        case measure => have := HA.out.2.2.2; omega
        case rel => exact ⟨q + 1, rfl, ⟨by have := HA.out.1; omega, by omega, by rw [← HA.out.2.2.1]; exact (run_step hq HC.out).symm, by omega⟩, rfl⟩
      | false =>
        have HC := Aside0.mk hc
        go_wp2_with (first | (go_at_call 37; (with_reducible refine (specIdentPart_c _ _).mono ?_); rintro e w' ⟨rfl, rfl⟩))
        go_ret
        exact ⟨ret_int (by rw [← HA.out.2.2.1]; exact (run_stop HC.out).symm), rfl⟩
    · have hd : decide (q < (s.size : Int)) = false := decide_eq_false hq
      go_wp2
      go_ret
      exact ⟨ret_int (by rw [← HA.out.2.2.1]; exact (run_end (by omega)).symm), rfl⟩
theorem lDotted_c (k : ByteArray) (w : World) : Calls Tryz.prog 29 #[.string k] w fun e w' => e = .returned (.bool (isFd (kd k.toList))) ∧ w' = w := by
  have hk := kd_field k.toList
  unfold kIdent kParam at hk
  rw [hk]
  clear hk
  cases h1 : (k.toList == [60, 105, 100, 101, 110, 116, 62]) <;> cases h2 : (k.toList == [60, 112, 97, 114, 97, 109, 62]) <;> cases h3 : (k.toList == [41]) <;> cases h4 : (k.toList == [93])
  all_goals
    go_enter Tryz.func29, Tryz.ntmps29
    go_wp2
    go_ret
    exact ⟨rfl, rfl⟩
theorem nextDot_c (k : ByteArray) (w : World) : Calls Tryz.prog 79 #[.string k] w fun e w' => e = .returned (.bool (isFd (kd k.toList))) ∧ w' = w := by
  have hk := kd_field k.toList
  unfold kIdent kParam at hk
  rw [hk]
  clear hk
  cases h1 : (k.toList == [60, 105, 100, 101, 110, 116, 62]) <;> cases h2 : (k.toList == [60, 112, 97, 114, 97, 109, 62]) <;> cases h3 : (k.toList == [41]) <;> cases h4 : (k.toList == [93])
  all_goals
    go_enter Tryz.func79, Tryz.ntmps79
    go_wp2
    go_ret
    exact ⟨rfl, rfl⟩
end Go.Proofs.YtjepdlmcombmcaaGreatDoor.Lx

/- The reference's comments and the letters ahead of a literal. Conditions: the place lies in the text; the text is no longer than a million bytes. -/
namespace Go.Proofs.YtjepdlmcombmcaaGreatDoor.Lx
open Go.RowKit Go.Proofs.YtjepdlmcombmcaaGreatDoorW.PrintWords

theorem star_step' {s : ByteArray} {q : Int} (h : q < (s.size : Int)) (hc : (bt s q == 42 && bt s (q + 1) == 47) = false) : starAt s q = starAt s (q + 1) := upto_step (Q := fun j => !(bt s j == 42 && bt s (j + 1) == 47)) h (by simp only [hc]; rfl)
theorem star_stop' {s : ByteArray} {q : Int} (hc : (bt s q == 42 && bt s (q + 1) == 47) = true) : starAt s q = q := upto_stop (Q := fun j => !(bt s j == 42 && bt s (j + 1) == 47)) (by simp only [hc]; rfl)
def commV (r : Option Int) : Int := match r with | some e => e | none => -1
theorem lComment_line (s : ByteArray) (p : Int) (w : World) (h0 : 0 ≤ p) (h1 : p ≤ (s.size : Int)) (hs : (s.size : Int) ≤ 1000000) (hl : isLineC s p = true) :
    Calls Tryz.prog 28 #[.string s, .int .i64 p] w fun e w' => e = .returned (.int .i64 (min (lineEnd s p + 1) (s.size : Int))) ∧ w' = w := by
  unfold isLineC at hl
  go_enter Tryz.func28, Tryz.ntmps28
  cases ha : (bt s p == 35) with
  | true =>
    clear hl
    go_wp2_with (first
      | (go_at_call 15; (with_reducible refine (starts1_c s 35 35 p _ rfl (by decide) h0 (by omega) hs).mono ?_); rintro e w' ⟨rfl, hw'⟩; obtain rfl := hw'.symm))
    go_loopg [1] (((s.size : Int) - p).toNat + 1) (fun kq v1 wr => ∃ q : Int, v1 = .int .i64 q ∧ Aside0 (p ≤ q ∧ q ≤ (s.size : Int) ∧ lineEnd s q = lineEnd s p ∧ ((s.size : Int) - q).toNat < kq) ∧ wr = w)
    case atStart => exact ⟨p, rfl, ⟨Int.le_refl _, h1, rfl, by omega⟩, rfl⟩
    case round =>
      obtain ⟨q, rfl, HA, rfl⟩ := hrel
      have hq0 : 0 ≤ q := by have := HA.out.1; omega
      have hq1 := HA.out.2.1
      have hw := iwrap (q + 1) (by omega) (by omega)
      by_cases hq : q < (s.size : Int)
      · have hd : decide (q < (s.size : Int)) = true := decide_eq_true hq
        have hx := bt_at s q
        cases hc : (bt s q == 10) with
        | true =>
          have HC := Aside0.mk (eq_of_beq hc)
          have hc2 : (bt s q != 10) = false := by simp [bne, hc]
          go_wp2
          go_ret
          exact ⟨ret_int (by rw [← HA.out.2.2.1, line_stop HC.out]; omega), rfl⟩
        | false =>
          have HC := Aside0.mk (ne_of_beq_false hc)
          have hc2 : (bt s q != 10) = true := by simp [bne, hc]
          go_wp2
          go_roundg (((s.size : Int) - (q + 1)).toNat + 1)
          case measure => have := HA.out.2.2.2; omega
          case rel => exact ⟨q + 1, rfl, ⟨by have := HA.out.1; omega, by omega, by rw [← HA.out.2.2.1]; exact (line_step hq HC.out).symm, by omega⟩, rfl⟩
      · have hd : decide (q < (s.size : Int)) = false := decide_eq_false hq
        go_wp2
        go_ret
        exact ⟨ret_int (by rw [← HA.out.2.2.1, line_eof (by omega)]; omega), rfl⟩
  | false =>
    rw [ha, Bool.false_or] at hl
    go_wp2_with (first
      | (go_at_call 15; (with_reducible refine (starts1_c s 35 35 p _ rfl (by decide) h0 (by omega) hs).mono ?_); rintro e w' ⟨rfl, hw'⟩; obtain rfl := hw'.symm)
      | (go_at_call 15; (with_reducible refine (starts2_c s 45 45 45 45 p _ rfl rfl (by decide) (by decide) h0 (by omega) hs).mono ?_); rintro e w' ⟨rfl, hw'⟩; obtain rfl := hw'.symm))
    go_loopg [1] (((s.size : Int) - p).toNat + 1) (fun kq v1 wr => ∃ q : Int, v1 = .int .i64 q ∧ Aside0 (p ≤ q ∧ q ≤ (s.size : Int) ∧ lineEnd s q = lineEnd s p ∧ ((s.size : Int) - q).toNat < kq) ∧ wr = w)
    case atStart => exact ⟨p, rfl, ⟨Int.le_refl _, h1, rfl, by omega⟩, rfl⟩
    case round =>
      obtain ⟨q, rfl, HA, rfl⟩ := hrel
      have hq0 : 0 ≤ q := by have := HA.out.1; omega
      have hq1 := HA.out.2.1
      have hw := iwrap (q + 1) (by omega) (by omega)
      by_cases hq : q < (s.size : Int)
      · have hd : decide (q < (s.size : Int)) = true := decide_eq_true hq
        have hx := bt_at s q
        cases hc : (bt s q == 10) with
        | true =>
          have HC := Aside0.mk (eq_of_beq hc)
          have hc2 : (bt s q != 10) = false := by simp [bne, hc]
          go_wp2
          go_ret
          exact ⟨ret_int (by rw [← HA.out.2.2.1, line_stop HC.out]; omega), rfl⟩
        | false =>
          have HC := Aside0.mk (ne_of_beq_false hc)
          have hc2 : (bt s q != 10) = true := by simp [bne, hc]
          go_wp2
          go_roundg (((s.size : Int) - (q + 1)).toNat + 1)
          case measure => have := HA.out.2.2.2; omega
          case rel => exact ⟨q + 1, rfl, ⟨by have := HA.out.1; omega, by omega, by rw [← HA.out.2.2.1]; exact (line_step hq HC.out).symm, by omega⟩, rfl⟩
      · have hd : decide (q < (s.size : Int)) = false := decide_eq_false hq
        go_wp2
        go_ret
        exact ⟨ret_int (by rw [← HA.out.2.2.1, line_eof (by omega)]; omega), rfl⟩
theorem lComment_c (s : ByteArray) (p : Int) (w : World) (h0 : 0 ≤ p) (h1 : p ≤ (s.size : Int)) (hs : (s.size : Int) ≤ 1000000) :
    Calls Tryz.prog 28 #[.string s, .int .i64 p] w fun e w' => e = .returned (.int .i64 (commV (comm s p))) ∧ w' = w := by
  cases hl : isLineC s p with
  | true =>
    have := lComment_line s p w h0 h1 hs hl
    unfold comm
    rw [if_pos hl]
    exact this
  | false =>
    unfold comm
    rw [if_neg (by rw [hl]; decide)]
    unfold isLineC at hl
    have ha : (bt s p == 35) = false := by simp only [Bool.or_eq_false_iff] at hl; exact hl.1
    have hb : (bt s p == 45 && bt s (p + 1) == 45) = false := by simp only [Bool.or_eq_false_iff] at hl; exact hl.2
    clear hl
    cases hk : isBlockC s p with
    | false =>
      rw [if_neg (by decide)]
      unfold isBlockC at hk
      go_enter Tryz.func28, Tryz.ntmps28
      go_wp2_with (first
        | (go_at_call 15; (with_reducible refine (starts1_c s 35 35 p _ rfl (by decide) h0 (by omega) hs).mono ?_); rintro e w' ⟨rfl, hw'⟩; obtain rfl := hw'.symm)
        | (go_at_call 15; (with_reducible refine (starts2_c s 45 45 45 45 p _ rfl rfl (by decide) (by decide) h0 (by omega) hs).mono ?_); rintro e w' ⟨rfl, hw'⟩; obtain rfl := hw'.symm)
        | (go_at_call 15; (with_reducible refine (starts2_c s 47 42 47 42 p _ rfl rfl (by decide) (by decide) h0 (by omega) hs).mono ?_); rintro e w' ⟨rfl, hw'⟩; obtain rfl := hw'.symm))
      go_ret
      exact ⟨rfl, rfl⟩
    | true =>
      rw [if_pos rfl]
      unfold isBlockC at hk
      have h2 : p + 1 < (s.size : Int) := by
        simp only [Bool.and_eq_true, beq_iff_eq] at hk
        exact bt_in hk.2 (by omega) (by omega)
      have hw2 := iwrap (p + 2) (by omega) (by omega)
      obtain ⟨R, hR⟩ : ∃ R, commV (if starAt s (p + 2) < (s.size : Int) then some (starAt s (p + 2) + 2) else none) = R := ⟨_, rfl⟩
      have HR := Aside0.mk hR
      rw [hR]
      clear hR
      go_enter Tryz.func28, Tryz.ntmps28
      go_wp2_with (first
        | (go_at_call 15; (with_reducible refine (starts1_c s 35 35 p _ rfl (by decide) h0 (by omega) hs).mono ?_); rintro e w' ⟨rfl, hw'⟩; obtain rfl := hw'.symm)
        | (go_at_call 15; (with_reducible refine (starts2_c s 45 45 45 45 p _ rfl rfl (by decide) (by decide) h0 (by omega) hs).mono ?_); rintro e w' ⟨rfl, hw'⟩; obtain rfl := hw'.symm)
        | (go_at_call 15; (with_reducible refine (starts2_c s 47 42 47 42 p _ rfl rfl (by decide) (by decide) h0 (by omega) hs).mono ?_); rintro e w' ⟨rfl, hw'⟩; obtain rfl := hw'.symm))
      go_loopg [5] (((s.size : Int) - p).toNat + 1) (fun kq v5 wr => ∃ q : Int, v5 = .int .i64 q ∧ Aside0 (p + 2 ≤ q ∧ q ≤ (s.size : Int) ∧ starAt s q = starAt s (p + 2) ∧ ((s.size : Int) - q).toNat < kq) ∧ wr = w)
      case atStart => exact ⟨p + 2, rfl, ⟨Int.le_refl _, by omega, rfl, by omega⟩, rfl⟩
      case round =>
        obtain ⟨q, rfl, HA, rfl⟩ := hrel
        have hq0 : 0 ≤ q := by have := HA.out.1; omega
        have hq1 := HA.out.2.1
        have hw := iwrap (q + 1) (by omega) (by omega)
        have hw3 := iwrap (q + 2) (by omega) (by omega)
        by_cases hq : q < (s.size : Int)
        · have hd : decide (q < (s.size : Int)) = true := decide_eq_true hq
          cases hc : (bt s q == 42 && bt s (q + 1) == 47) with
          | true =>
            have HC := Aside0.mk hc
            go_wp2_with (first
              | (go_at_call 15; (with_reducible refine (starts2_c s 42 47 42 47 q _ rfl rfl (by decide) (by decide) hq0 (by omega) hs).mono ?_); rintro e w' ⟨rfl, hw'⟩; obtain rfl := hw'.symm))
            go_ret
            have hr := star_stop' HC.out
            exact ⟨ret_int (by rw [← HR.out, ← HA.out.2.2.1, hr, if_pos hq]; rfl), rfl⟩
          | false =>
            have HC := Aside0.mk hc
            go_wp2_with (first
              | (go_at_call 15; (with_reducible refine (starts2_c s 42 47 42 47 q _ rfl rfl (by decide) (by decide) hq0 (by omega) hs).mono ?_); rintro e w' ⟨rfl, hw'⟩; obtain rfl := hw'.symm))
            go_roundg (((s.size : Int) - (q + 1)).toNat + 1)
            case measure => have := HA.out.2.2.2; omega
            case rel => exact ⟨q + 1, rfl, ⟨by have := HA.out.1; omega, by omega, by rw [← HA.out.2.2.1]; exact (star_step' hq HC.out).symm, by omega⟩, rfl⟩
        · have hd : decide (q < (s.size : Int)) = false := decide_eq_false hq
          go_wp2
          go_ret
          exact ⟨ret_int (by rw [← HR.out, ← HA.out.2.2.1, show starAt s q = q from upto_end (by omega), if_neg (by omega)]; rfl), rfl⟩
/-- A word of letters, digits and underscores has no blank. -/
theorem lSpaced_c (s : ByteArray) (w : World) (hs : (s.size : Int) ≤ 1000000) (hn : ∀ i : Int, 0 ≤ i → i < (s.size : Int) → (bt s i == 32) = false) :
    Calls Tryz.prog 61 #[.string s] w fun e w' => e = .returned (.bool false) ∧ w' = w := by
  have HN := Aside0.mk hn
  clear hn
  go_enter Tryz.func61, Tryz.ntmps61
  go_wp2
  go_loopg [3] (s.size + 1) (fun kq v3 wr => ∃ q : Int, v3 = .int .i64 q ∧ Aside0 (0 ≤ q ∧ q ≤ (s.size : Int) ∧ ((s.size : Int) - q).toNat < kq) ∧ wr = w)
  case atStart => exact ⟨0, rfl, ⟨Int.le_refl _, by omega, by omega⟩, rfl⟩
  case round =>
    obtain ⟨q, rfl, HA, rfl⟩ := hrel
    have hq0 := HA.out.1
    have hw := iwrap (q + 1) (by omega) (by have := HA.out.2.1; omega)
    by_cases hq : q < (s.size : Int)
    · have hd : decide (q < (s.size : Int)) = true := decide_eq_true hq
      have hx := bt_at s q
      have hc := HN.out q hq0 hq
      go_wp2
      go_roundg (((s.size : Int) - (q + 1)).toNat + 1)
      case measure => have := HA.out.2.2; omega
      case rel => exact ⟨q + 1, rfl, ⟨by omega, by omega, by omega⟩, rfl⟩
    · have hd : decide (q < (s.size : Int)) = false := decide_eq_false hq
      go_wp2
      go_ret
      exact ⟨rfl, rfl⟩
end Go.Proofs.YtjepdlmcombmcaaGreatDoor.Lx

/- The reference's letters ahead of a literal. Conditions: the place lies in the text; the text is no longer than a million bytes. -/
namespace Go.Proofs.YtjepdlmcombmcaaGreatDoor.Lx
open Go.RowKit Go.Proofs.YtjepdlmcombmcaaGreatDoorW.PrintWords

section
variable {s : ByteArray} {k : Nat} {p : Int} {r b : Bool}
theorem pfx_none (h : bt s p = 0) : pfx s k p r b = none := by
  cases k with
  | zero => rfl
  | succ k => simp [pfx, h, isMark, isR, isB]
theorem pfx_mark (h : isMark (bt s p) = true) : pfx s (k + 1) p r b = some (p, r, b) := by simp [pfx, h]
theorem pfx_r (hm : isMark (bt s p) = false) (h : isR (bt s p) = true) : pfx s (k + 1) p false b = pfx s k (p + 1) true b := by simp [pfx, hm, h]
theorem pfx_b (hm : isMark (bt s p) = false) (hr : (isR (bt s p) && !r) = false) (h : isB (bt s p) = true) : pfx s (k + 1) p r false = pfx s k (p + 1) r true := by simp [pfx, hm, hr, h]
theorem pfx_not (hm : isMark (bt s p) = false) (hr : (isR (bt s p) && !r) = false) (hb : (isB (bt s p) && !b) = false) : pfx s (k + 1) p r b = none := by simp [pfx, hm, hr, hb]
end
def pfxV (p : Int) (r : Option (Int × Bool × Bool)) : Value := match r with
  | some (q, raw, bytes) => .tuple #[.int .i64 (q - p), .bool raw, .bool bytes]
  | none => .tuple #[.int .i64 (-1), .bool false, .bool false]
theorem results_tmp3 {P : Program} {fn : Func} {a : Act} {w : World} {i j k : Nat} (h : fn.results = #[.tmp i, .tmp j, .tmp k]) (x y z : Value) (hx : a.tmps[i]? = some x) (hy : a.tmps[j]? = some y) (hz : a.tmps[k]? = some z) :
    (results fn a.tmps).run P w = .ok (.tuple #[x, y, z]) w := by
  simp [results, h, hx, hy, hz, go_sem]
set_option maxHeartbeats 2000000 in
theorem prefix_c (s : ByteArray) (p : Int) (w : World) (h0 : 0 ≤ p) (h1 : p < (s.size : Int)) (hs : (s.size : Int) ≤ 1000000) :
    Calls Tryz.prog 43 #[.string s, .int .i64 p] w fun e w' => e = .returned (pfxV p (pfx s 3 p false false)) ∧ w' = w := by
  obtain ⟨R, hR⟩ : ∃ R, pfx s 3 p false false = R := ⟨_, rfl⟩
  have HR := Aside0.mk hR
  rw [hR]
  clear hR
  go_enter Tryz.func43, Tryz.ntmps43
  go_wp2
  go_loopg [7, 8, 9] 4 (fun kq v7 v8 v9 wr => ∃ (n : Nat) (raw bytes : Bool), v7 = .bool raw ∧ v8 = .bool bytes ∧ v9 = .int .i64 n ∧ Aside0 (n ≤ 3 ∧ pfx s (3 - n) (p + n) raw bytes = R ∧ 3 - n < kq) ∧ wr = w)
  case atStart => exact ⟨0, false, false, rfl, rfl, rfl, ⟨by omega, by simpa using HR.out, by omega⟩, rfl⟩
  case round =>
    obtain ⟨n, raw, bytes, rfl, rfl, rfl, HA, rfl⟩ := hrel
    have hn3 := HA.out.1
    by_cases hn : (n : Int) < 3
    · have hd : decide ((n : Int) < 3) = true := decide_eq_true hn
      have hw := iwrap (p + n) (by omega) (by omega)
      have hw1 := iwrap ((n : Int) + 1) (by omega) (by omega)
      have e0 : 0 ≤ p + n := by omega
      obtain ⟨k, hk⟩ : ∃ k, 3 - n = k + 1 := ⟨2 - n, by omega⟩
      have hk2 : 3 - (n + 1) = k := by omega
      have hpn : p + ((n + 1 : Nat) : Int) = p + n + 1 := by push_cast; omega
      have HP := Aside0.mk HA.out.2.1
      rw [hk] at HP
      have HM := HA.out.2.2
      by_cases hq : p + n < (s.size : Int)
      · have hd2 : decide (p + n < (s.size : Int)) = true := decide_eq_true hq
        have hx := bt_at s (p + n)
        cases c34 : (bt s (p + n) == 34) with
        | true =>
          go_wp2
          (try simp only [Exit.inBlock, Exit.then]); refine bodyPost_ret (results_tmp3 rfl _ _ _ rfl rfl rfl) rfl ?_
          have hz := HP.out
          rw [pfx_mark (by simp [isMark, c34])] at hz
          exact ⟨by rw [← hz]; show Ending.returned (Value.tuple #[_, _, _]) = _; simp [pfxV]; try omega, rfl⟩
        | false =>
          cases c39 : (bt s (p + n) == 39) with
          | true =>
            go_wp2
            (try simp only [Exit.inBlock, Exit.then]); refine bodyPost_ret (results_tmp3 rfl _ _ _ rfl rfl rfl) rfl ?_
            have hz := HP.out
            rw [pfx_mark (by simp [isMark, c39])] at hz
            exact ⟨by rw [← hz]; show Ending.returned (Value.tuple #[_, _, _]) = _; simp [pfxV]; try omega, rfl⟩
          | false =>
            cases c114 : (bt s (p + n) == 114) with
            | true =>
              cases raw with
              | false =>
                go_wp2
                go_roundg (3 - n)
                case measure => omega
                case rel => exact ⟨n + 1, true, bytes, rfl, rfl, rfl, ⟨by omega, by rw [hk2, hpn]; rw [← HP.out, pfx_r (by simp [isMark, c34, c39]) (by simp [isR, c114])], by omega⟩, rfl⟩
              | true =>
                have c98 : (bt s (p + n) == 98) = false := by rw [beq_iff_eq.1 c114]; rfl
                have c66 : (bt s (p + n) == 66) = false := by rw [beq_iff_eq.1 c114]; rfl
                go_wp2
                (try simp only [Exit.inBlock, Exit.then]); refine bodyPost_ret (results_tmp3 rfl _ _ _ rfl rfl rfl) rfl ?_
                have hz := HP.out
                rw [pfx_not (by simp [isMark, c34, c39]) (by simp) (by simp [isB, c98, c66])] at hz
                exact ⟨by rw [← hz]; show Ending.returned (Value.tuple #[_, _, _]) = _; simp [pfxV]; try omega, rfl⟩
            | false =>
              cases c82 : (bt s (p + n) == 82) with
              | true =>
                cases raw with
                | false =>
                  go_wp2
                  go_roundg (3 - n)
                  case measure => omega
                  case rel => exact ⟨n + 1, true, bytes, rfl, rfl, rfl, ⟨by omega, by rw [hk2, hpn]; rw [← HP.out, pfx_r (by simp [isMark, c34, c39]) (by simp [isR, c82])], by omega⟩, rfl⟩
                | true =>
                  have c98 : (bt s (p + n) == 98) = false := by rw [beq_iff_eq.1 c82]; rfl
                  have c66 : (bt s (p + n) == 66) = false := by rw [beq_iff_eq.1 c82]; rfl
                  go_wp2
                  (try simp only [Exit.inBlock, Exit.then]); refine bodyPost_ret (results_tmp3 rfl _ _ _ rfl rfl rfl) rfl ?_
                  have hz := HP.out
                  rw [pfx_not (by simp [isMark, c34, c39]) (by simp) (by simp [isB, c98, c66])] at hz
                  exact ⟨by rw [← hz]; show Ending.returned (Value.tuple #[_, _, _]) = _; simp [pfxV]; try omega, rfl⟩
              | false =>
                cases c98 : (bt s (p + n) == 98) with
                | true =>
                  cases bytes with
                  | false =>
                    go_wp2
                    go_roundg (3 - n)
                    case measure => omega
                    case rel => exact ⟨n + 1, raw, true, rfl, rfl, rfl, ⟨by omega, by rw [hk2, hpn]; rw [← HP.out, pfx_b (by simp [isMark, c34, c39]) (by simp [isR, c114, c82]) (by simp [isB, c98])], by omega⟩, rfl⟩
                  | true =>
                    go_wp2
                    (try simp only [Exit.inBlock, Exit.then]); refine bodyPost_ret (results_tmp3 rfl _ _ _ rfl rfl rfl) rfl ?_
                    have hz := HP.out
                    rw [pfx_not (by simp [isMark, c34, c39]) (by simp [isR, c114, c82]) (by simp)] at hz
                    exact ⟨by rw [← hz]; show Ending.returned (Value.tuple #[_, _, _]) = _; simp [pfxV]; try omega, rfl⟩
                | false =>
                  cases c66 : (bt s (p + n) == 66) with
                  | true =>
                    cases bytes with
                    | false =>
                      go_wp2
                      go_roundg (3 - n)
                      case measure => omega
                      case rel => exact ⟨n + 1, raw, true, rfl, rfl, rfl, ⟨by omega, by rw [hk2, hpn]; rw [← HP.out, pfx_b (by simp [isMark, c34, c39]) (by simp [isR, c114, c82]) (by simp [isB, c66])], by omega⟩, rfl⟩
                    | true =>
                      go_wp2
                      (try simp only [Exit.inBlock, Exit.then]); refine bodyPost_ret (results_tmp3 rfl _ _ _ rfl rfl rfl) rfl ?_
                      have hz := HP.out
                      rw [pfx_not (by simp [isMark, c34, c39]) (by simp [isR, c114, c82]) (by simp)] at hz
                      exact ⟨by rw [← hz]; show Ending.returned (Value.tuple #[_, _, _]) = _; simp [pfxV]; try omega, rfl⟩
                  | false =>
                    go_wp2
                    (try simp only [Exit.inBlock, Exit.then]); refine bodyPost_ret (results_tmp3 rfl _ _ _ rfl rfl rfl) rfl ?_
                    have hz := HP.out
                    rw [pfx_not (by simp [isMark, c34, c39]) (by simp [isR, c114, c82]) (by simp [isB, c98, c66])] at hz
                    exact ⟨by rw [← hz]; show Ending.returned (Value.tuple #[_, _, _]) = _; simp [pfxV]; try omega, rfl⟩
      · have hd2 : decide (p + n < (s.size : Int)) = false := decide_eq_false hq
        go_wp2
        (try simp only [Exit.inBlock, Exit.then]); refine bodyPost_ret (results_tmp3 rfl _ _ _ rfl rfl rfl) rfl ?_
        have hz := HP.out
        rw [pfx_none (bt_far s _ (by omega))] at hz
        exact ⟨by rw [← hz]; rfl, rfl⟩
    · have hd : decide ((n : Int) < 3) = false := decide_eq_false hn
      have hn0 : 3 - n = 0 := by omega
      have HP := Aside0.mk HA.out.2.1
      rw [hn0] at HP
      go_wp2
      (try simp only [Exit.inBlock, Exit.then]); refine bodyPost_ret (results_tmp3 rfl _ _ _ rfl rfl rfl) rfl ?_
      exact ⟨by rw [← HP.out]; rfl, rfl⟩
end Go.Proofs.YtjepdlmcombmcaaGreatDoor.Lx

/- Words in one long text, each between two blanks: a word without a blank is found there exactly if it is one of them. Plain laws; no program. -/
namespace Go.Proofs.YtjepdlmcombmcaaGreatDoor.Lx
open Go.RowKit Go.Proofs.YtjepdlmcombmcaaGreatDoorW.PrintWords

def wtext (ws : List (List UInt8)) : List UInt8 := 32 :: ws.flatMap (fun w => w ++ [32])
theorem wtext_cons (w : List UInt8) (ws : List (List UInt8)) : wtext (w :: ws) = (32 :: w) ++ wtext ws := by simp [wtext]
theorem word_same : ∀ (u w r : List UInt8), 32 ∉ u → 32 ∉ w → u ++ [32] <+: w ++ 32 :: r → u = w := by
  intro u
  induction u with
  | nil =>
    intro w r _ hw h
    cases w with
    | nil => rfl
    | cons c w =>
      simp only [List.nil_append, List.cons_append, List.cons_prefix_cons] at h
      exact absurd (by rw [← h.1]; exact List.mem_cons_self) hw
  | cons c u ih =>
    intro w r hu hw h
    cases w with
    | nil =>
      simp only [List.nil_append, List.cons_append, List.cons_prefix_cons] at h
      exact absurd (by rw [h.1]; exact List.mem_cons_self) hu
    | cons d w =>
      simp only [List.cons_append, List.cons_prefix_cons] at h
      rw [h.1, ih w r (fun hm => hu (List.mem_cons_of_mem _ hm)) (fun hm => hw (List.mem_cons_of_mem _ hm)) h.2]
theorem wtext_has (u : List UInt8) (hu : 32 ∉ u) : ∀ (ws : List (List UInt8)), (∀ w ∈ ws, 32 ∉ w) → ∀ i, (32 :: (u ++ [32])) <+: (wtext ws).drop i → u ∈ ws := by
  intro ws
  induction ws with
  | nil =>
    intro _ i h
    have h1 := h.length_le
    simp [wtext] at h1
    omega
  | cons w ws ih =>
    intro hw i h
    rw [wtext_cons] at h
    by_cases h0 : i = 0
    · subst h0
      simp only [List.drop_zero, List.cons_append, List.cons_prefix_cons, true_and] at h
      have : u = w := word_same u w _ hu (hw w List.mem_cons_self) h
      rw [this]
      exact List.mem_cons_self
    · by_cases h1 : i ≤ w.length
      · exfalso
        obtain ⟨k, rfl⟩ : ∃ k, i = k + 1 := ⟨i - 1, by omega⟩
        rw [List.cons_append, List.drop_succ_cons, List.drop_append_of_le_length (by omega)] at h
        have h2 : w.drop k = w[k] :: w.drop (k + 1) := List.drop_eq_getElem_cons (by omega)
        rw [h2, List.cons_append, List.cons_prefix_cons] at h
        exact hw w List.mem_cons_self (by rw [h.1]; exact List.getElem_mem _)
      · have h2 : i = (32 :: w).length + (i - (w.length + 1)) := by simp; omega
        rw [h2, List.drop_append] at h
        have h3 : (32 :: w).drop ((32 :: w).length + (i - (w.length + 1))) = [] := List.drop_eq_nil_of_le (by omega)
        rw [h3, List.nil_append, Nat.add_sub_cancel_left] at h
        exact List.mem_cons_of_mem _ (ih (fun v hv => hw v (List.mem_cons_of_mem _ hv)) _ h)
theorem wtext_at (u : List UInt8) : ∀ (ws : List (List UInt8)), u ∈ ws → ∃ i, (32 :: (u ++ [32])) <+: (wtext ws).drop i := by
  intro ws
  induction ws with
  | nil => intro h; cases h
  | cons w ws ih =>
    intro h
    rw [wtext_cons]
    rcases List.mem_cons.1 h with rfl | h
    · refine ⟨0, ws.flatMap (fun w => w ++ [32]), ?_⟩
      simp [wtext]
    · obtain ⟨i, h⟩ := ih h
      refine ⟨(32 :: w).length + i, ?_⟩
      rw [List.drop_append]
      have h3 : (32 :: w).drop ((32 :: w).length + i) = [] := List.drop_eq_nil_of_le (by omega)
      rw [h3, List.nil_append, Nat.add_sub_cancel_left]
      exact h
/-- At i the text K has the word u between two blanks. -/
def hasAt (K u : ByteArray) (i : Int) : Bool := bt K i == 32 && ((K.extract (i + 1).toNat (i + 1 + u.size).toNat).toList == u.toList && bt K (i + 1 + u.size) == 32)
theorem bt_list (K : ByteArray) (i : Nat) (h : i < K.size) : ∃ c, K.toList[i]? = some c ∧ bt K i = (c.toNat : Int) := by
  refine ⟨K[i], ?_, ?_⟩
  · rw [ByteArray.toList_eq, Array.getElem?_toList, Array.getElem?_eq_getElem h]
    rfl
  · have := bt_at K (i : Int) (by simpa using h)
    simpa using this.symm
theorem bt_32 (K : ByteArray) (i : Nat) (h : i < K.size) : bt K i = 32 ↔ K.toList[i]? = some 32 := by
  obtain ⟨c, h1, h2⟩ := bt_list K i h
  rw [h1, h2]
  constructor
  · intro h3
    have : c.toNat = 32 := by omega
    congr 1
    exact UInt8.toNat_inj.1 this
  · intro h3
    injection h3 with h3
    rw [h3]
    rfl
theorem list_extract (K : ByteArray) (a b : Nat) : (K.extract a b).toList = (K.toList.drop a).take (b - a) := by
  rw [ByteArray.toList_eq, ByteArray.toList_eq, ByteArray.data_extract, Array.toList_extract, List.extract_eq_take_drop]
theorem list_size (K : ByteArray) : K.toList.length = K.size := by
  rw [ByteArray.toList_eq]
  rfl
theorem hasAt_iff (K u : ByteArray) (i : Nat) (h : i + u.size + 1 < K.size) : hasAt K u (i : Int) = true ↔ (32 :: (u.toList ++ [32])) <+: K.toList.drop i := by
  have e1 : ((i : Int) + 1).toNat = i + 1 := by omega
  have e2 : ((i : Int) + 1 + u.size).toNat = i + 1 + u.size := by omega
  have e3 : ((i : Int) + 1 + u.size) = ((i + 1 + u.size : Nat) : Int) := by push_cast; rfl
  unfold hasAt
  rw [e1, e2, e3]
  simp only [Bool.and_eq_true, beq_iff_eq]
  rw [bt_32 K i (by omega), bt_32 K (i + 1 + u.size) (by omega), list_extract]
  have e4 : i + 1 + u.size - (i + 1) = u.size := by omega
  rw [e4]
  have hl := list_size K
  have hu := list_size u
  have hd : K.toList.drop i = K.toList[i]'(by omega) :: K.toList.drop (i + 1) := List.drop_eq_getElem_cons (by omega)
  have hk : K.toList[i]? = some (K.toList[i]'(by omega)) := List.getElem?_eq_getElem (by omega)
  have hk2 : K.toList[i + 1 + u.size]? = some (K.toList[i + 1 + u.size]'(by omega)) := List.getElem?_eq_getElem (by omega)
  have hd2 : (K.toList.drop (i + 1)).drop u.size = K.toList[i + 1 + u.size]'(by omega) :: K.toList.drop (i + 1 + u.size + 1) := by
    rw [List.drop_drop]
    exact List.drop_eq_getElem_cons (by omega)
  rw [hd, List.cons_prefix_cons, hk, hk2]
  have hsplit : K.toList.drop (i + 1) = (K.toList.drop (i + 1)).take u.size ++ (K.toList.drop (i + 1)).drop u.size := (List.take_append_drop _ _).symm
  constructor
  · rintro ⟨h1, h2, h3⟩
    injection h1 with h1
    injection h3 with h3
    refine ⟨h1.symm, ?_⟩
    rw [hsplit, h2, hd2, h3]
    exact ⟨_, by rw [List.append_assoc]; rfl⟩
  · rintro ⟨h1, r, h2⟩
    have h3 : (K.toList.drop (i + 1)).take u.size = u.toList := by
      rw [← h2, List.append_assoc, ← hu]
      exact List.take_left' rfl
    have h4 : (K.toList.drop (i + 1)).drop u.size = 32 :: r := by
      rw [← h2, List.append_assoc, ← hu, List.drop_left' rfl]
      rfl
    rw [hd2] at h4
    injection h4 with h4
    exact ⟨by rw [← h1], h3, by rw [h4]⟩
/-- The long text of the reserved words has a word exactly if it is one of them. -/
theorem words_yes (K u : ByteArray) (ws : List (List UInt8)) (hK : K.toList = wtext ws) (hw : ∀ w ∈ ws, 32 ∉ w) (hu : 32 ∉ u.toList) (i : Int) (h0 : 0 ≤ i) (h1 : i + u.size + 1 < (K.size : Int)) (h : hasAt K u i = true) : u.toList ∈ ws := by
  obtain ⟨n, rfl⟩ := Int.eq_ofNat_of_zero_le h0
  have := (hasAt_iff K u n (by omega)).1 h
  rw [hK] at this
  exact wtext_has _ hu ws hw n this
theorem words_no (K u : ByteArray) (ws : List (List UInt8)) (hK : K.toList = wtext ws) (h : ∀ i : Int, 0 ≤ i → i + u.size + 1 < (K.size : Int) → hasAt K u i = false) : u.toList ∉ ws := by
  intro hm
  obtain ⟨i, hp⟩ := wtext_at _ _ hm
  rw [← hK] at hp
  have h1 := hp.length_le
  rw [List.length_drop, list_size] at h1
  simp only [List.length_cons, List.length_append, List.length_nil, list_size] at h1
  have h2 := (hasAt_iff K u i (by omega)).2 hp
  rw [h (i : Int) (by omega) (by omega)] at h2
  cases h2
end Go.Proofs.YtjepdlmcombmcaaGreatDoor.Lx
