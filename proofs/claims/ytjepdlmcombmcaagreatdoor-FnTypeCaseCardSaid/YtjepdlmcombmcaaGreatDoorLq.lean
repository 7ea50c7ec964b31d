/- The parser's small methods: the lexer and the token are copied, a token is expected. Conditions: the parser's and lexer's state; what the next token is. -/
import Derived.Test.YtjepdlmcombmcaaGreatDoorLo
namespace Go.Proofs.YtjepdlmcombmcaaGreatDoor.Lx
open Go.RowKit Go.Proofs.YtjepdlmcombmcaaGreatDoorW.PrintWords

/-- The lexer stands behind a token of the kind k with the text t, at p; no comment ahead of it. -/
structure TokSt (k t : ByteArray) (p : Int) (x : St) : Prop where
  kind : x.kind = k
  txt : x.txt = t
  com : x.com = .slice none 0 0
  dot : x.dot = false
  pos : x.pos = p
/-- From p on the next token of s is one of the kind k with the text t, and ends at q. -/
def Step (s : ByteArray) (p : Int) (k t : ByteArray) (q : Int) : Prop :=
  ∀ (W : World) (b fb : Nat) (x : St), IsL W b fb x → IsF W fb s → x.pos = p → x.dot = false →
    Calls Tryz.prog 34 #[.pointer (some ⟨b, 0, none⟩), .bool false] W fun e w' => e = .returned (.tuple #[]) ∧ Ups b W w' ∧ ∃ y, TokSt k t q y ∧ IsL w' b fb y
/-- Block g holds a copy of the token of x. -/
def Copy (w : World) (g : Nat) (x : St) : Prop :=
  w.heap[g]? = some (.cells #[.string x.kind, .slice none 0 0, .string x.space, .string x.raw, .string x.txt, .int .i64 x.base, .int .i64 x.tp, .int .i64 x.te] 65 (0, 0))
theorem Copy.idTok {w : World} {g : Nat} {x : St} {u : ByteArray} {p : Int} (h : Copy w g x) (hx : TokSt ⟨#[60, 105, 100, 101, 110, 116, 62]⟩ u p x) : IdTok w g 0 u :=
  ⟨by rw [← hx.kind]; exact (blk_cell h 0).trans rfl, by rw [← hx.txt]; exact (blk_cell h 4).trans rfl⟩
theorem Copy.c6 {w : World} {g : Nat} {x : St} (h : Copy w g x) : w.cell? ⟨g, 6, none⟩ = some (.int .i64 x.tp) := (blk_cell h 6).trans rfl
theorem Copy.ups {w w1 : World} {g b : Nat} {x : St} (h : Copy w g x) (hu : Ups b w w1) (hn : g ≠ b) : Copy w1 g x := hu.obj h hn

theorem cloneTok_c (b fb : Nat) (x : St) (w : World) (hL : IsL w b fb x) (hcom : x.com = .slice none 0 0) :
    Calls Tryz.prog 97 #[.pointer (some ⟨b, 1, none⟩)] w fun e w' => e = .returned (.pointer (some ⟨w.heap.size, 0, none⟩)) ∧ Below w.heap.size w w' ∧ Copy w' w.heap.size x := by
  have L1 := hL.c1
  have L2 : w.cell? ⟨b, 2, none⟩ = some (.slice none 0 0) := by rw [← hcom]; exact hL.c2
  have L3 := hL.c3
  have L4 := hL.c4
  have L5 := hL.c5
  have L6 := hL.c6
  have L7 := hL.c7
  have L8 := hL.c8
  clear hcom
  go_enter Tryz.func97, Tryz.ntmps97
  go_wp2
  go_ret
  exact ⟨rfl, below_alloc (Below.refl _ _) _, heap_alloc_new w _⟩

theorem cloneLex_c (b fb : Nat) (x : St) (w : World) (hL : IsL w b fb x) (hcom : x.com = .slice none 0 0) :
    Calls Tryz.prog 95 #[.pointer (some ⟨b, 0, none⟩)] w fun e w' => e = .returned (.pointer (some ⟨w.heap.size, 0, none⟩)) ∧ Below w.heap.size w w' := by
  have L0 := hL.c0
  have L1 := hL.c1
  have L2 : w.cell? ⟨b, 2, none⟩ = some (.slice none 0 0) := by rw [← hcom]; exact hL.c2
  have L3 := hL.c3
  have L4 := hL.c4
  have L5 := hL.c5
  have L6 := hL.c6
  have L7 := hL.c7
  have L8 := hL.c8
  have L9 := hL.c9
  have L10 := hL.c10
  have L11 := hL.c11
  clear hcom
  go_enter Tryz.func95, Tryz.ntmps95
  go_wp2
  go_ret
  exact ⟨rfl, below_alloc (Below.refl _ _) _⟩

theorem cloneLexer_c (pb b fb : Nat) (x : St) (w : World) (hP : IsP w pb b) (hL : IsL w b fb x) (hcom : x.com = .slice none 0 0) :
    Calls Tryz.prog 62 #[.pointer (some ⟨pb, 0, none⟩)] w fun e w' => e = .returned (.pointer (some ⟨w.heap.size, 0, none⟩)) ∧ Below w.heap.size w w' := by
  have P0 := hP.lex
  go_enter Tryz.func62, Tryz.ntmps62
  go_wp2_with (first | (go_at_call 95; (with_reducible refine (cloneLex_c b fb x _ hL hcom).mono ?_); rintro e w' ⟨rfl, hb⟩))
  go_ret
  exact ⟨rfl, hb⟩

theorem pNext_c (pb b fb : Nat) (x : St) (w : World) (s : ByteArray) (p q : Int) (k t : ByteArray) (hP : IsP w pb b) (hL : IsL w b fb x) (hF : IsF w fb s) (hp : x.pos = p) (hd : x.dot = false) (hS : Step s p k t q) :
    Calls Tryz.prog 66 #[.pointer (some ⟨pb, 0, none⟩)] w fun e w' => e = .returned (.tuple #[]) ∧ Ups b w w' ∧ ∃ y, TokSt k t q y ∧ IsL w' b fb y := by
  have P0 := hP.lex
  have hn : ∀ W, IsL W b fb x → IsF W fb s → Calls Tryz.prog 34 #[.pointer (some ⟨b, 0, none⟩), .bool false] W fun e w' => e = .returned (.tuple #[]) ∧ Ups b W w' ∧ ∃ y, TokSt k t q y ∧ IsL w' b fb y := fun W h1 h2 => hS W b fb x h1 h2 hp hd
  have HS := Aside0.mk hn
  clear hS hp hn
  go_enter Tryz.func66, Tryz.ntmps66
  go_wp2_with (first | (go_at_call 34; (with_reducible refine (HS.out _ hL hF).mono ?_); rintro e w' ⟨rfl, hU, hy⟩))
  go_end0
  exact ⟨rfl, hU, hy⟩

/-- What expect leaves. -/
def Expected (b fb : Nat) (x : St) (k t : ByteArray) (q : Int) (w : World) (e : Ending) (w' : World) : Prop :=
  ∃ g, e = .returned (.pointer (some ⟨g, 0, none⟩)) ∧ w.heap.size ≤ g ∧ Ups b w w' ∧ Copy w' g x ∧ ∃ y, TokSt k t q y ∧ IsL w' b fb y
theorem expect_c (pb b fb : Nat) (x : St) (w : World) (s : ByteArray) (k0 t0 : ByteArray) (p q : Int) (k t : ByteArray) (hP : IsP w pb b) (hL : IsL w b fb x) (hF : IsF w fb s) (hx : TokSt k0 t0 p x) (hS : Step s p k t q) :
    Calls Tryz.prog 119 #[.pointer (some ⟨pb, 0, none⟩), .string k0] w (Expected b fb x k t q w) := by
  have hne := hF.ne hL
  have hpb := hP.ne hL
  obtain ⟨hk, ht, hc, hd, hp⟩ := hx
  subst hk
  have P0 := hP.lex
  have L1 := hL.c1
  have HP := Aside0.mk hp
  have HC := Aside0.mk hc
  have HD := Aside0.mk hd
  have HS := Aside0.mk hS
  clear hp hc hd ht hS
  have e1 : (x.kind.toList == x.kind.toList) = true := beq_self_eq_true _
  go_enter Tryz.func119, Tryz.ntmps119
  go_wp2_with (first
    | (go_at_call 97; (with_reducible refine (cloneTok_c b fb x _ hL HC.out).mono ?_); rintro e w1 ⟨rfl, hb1, hcp⟩; have hL1 := hL.below hb1; have hP1 : IsP w1 pb b := blk_below hP hb1; have hF1 : IsF w1 fb s := hF.ups ((Ups.refl b w).below hb1) hne; have Q0 := hP1.lex)
    | (go_at_call 66; (with_reducible refine (pNext_c pb b fb x _ s _ q k t hP1 hL1 hF1 HP.out HD.out HS.out).mono ?_); rintro e w2 ⟨rfl, hU, hy⟩))
  go_ret
  refine ⟨w.heap.size, rfl, Nat.le_refl _, ((Ups.refl b w).below hb1).trans hU, hcp.ups hU ?_, hy⟩
  have := hL.lt
  omega
end Go.Proofs.YtjepdlmcombmcaaGreatDoor.Lx
