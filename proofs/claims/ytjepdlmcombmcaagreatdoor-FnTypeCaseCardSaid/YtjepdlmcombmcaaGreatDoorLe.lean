/- The lexer's tokens (first part): the end of the text, the signs < and > alone. Conditions: the lexer's state, the byte at its place. -/
import Derived.Test.YtjepdlmcombmcaaGreatDoorLd
namespace Go.Proofs.YtjepdlmcombmcaaGreatDoor.Lx
open Go.RowKit Go.Proofs.YtjepdlmcombmcaaGreatDoorW.PrintWords

set_option maxRecDepth 100000 in
theorem tok_eof (w : World) (b fb : Nat) (x : St) (s : ByteArray) (hL : IsL w b fb x) (hF : IsF w fb s) (hp : x.pos = (s.size : Int)) :
    Calls Tryz.prog 54 #[.pointer (some ⟨b, 0, none⟩), .bool false] w fun e w' => e = .returned (.tuple #[]) ∧ Ups b w w' ∧ IsL w' b fb { x with kind := ⟨#[60, 101, 111, 102, 62]⟩ } := by
  have hat := hL.at_ hF
  have hd : decide ((s.size : Int) ≤ x.pos) = true := decide_eq_true (by omega)
  have H1 := hL.c1
  have Z1 := hL.free 1
  go_enter Tryz.func54, Tryz.ntmps54
  go_wp2_with (first | (go_at_call 69; (with_reducible refine (eof_c b fb s _ _ hat).mono ?_); rintro e w' ⟨rfl, ⟨nd, rfl⟩⟩))
  (try simp only [Exit.inBlock, Exit.then]); refine bodyPost_ret (results_none rfl _ _ _) rfl ?_
  exact ⟨rfl, by repeat (first | exact Ups.refl _ _ | apply Ups.set | apply Ups.drewN), (hL.drewN _).set1 _⟩

set_option maxRecDepth 100000 in
/-- The sign < with no sign behind it that would make a greater one. -/
theorem tok_lt (w : World) (b fb : Nat) (x : St) (s : ByteArray) (hL : IsL w b fb x) (hF : IsF w fb s) (hp0 : 0 ≤ x.pos) (hp : x.pos < (s.size : Int)) (hs : (s.size : Int) ≤ 1000000)
    (hc : bt s x.pos = 60) (h1 : (decide (x.pos + 1 < (s.size : Int)) && (bt s (x.pos + 1) == 60)) = false) (h2 : (decide (x.pos + 1 < (s.size : Int)) && (bt s (x.pos + 1) == 61)) = false) (h3 : (decide (x.pos + 1 < (s.size : Int)) && (bt s (x.pos + 1) == 62)) = false) :
    Calls Tryz.prog 54 #[.pointer (some ⟨b, 0, none⟩), .bool false] w fun e w' => e = .returned (.tuple #[]) ∧ Ups b w w' ∧ IsL w' b fb { x with kind := ⟨#[60]⟩, pos := x.pos + 1 } := by
  have hat := hL.at_ hF
  have hd : decide ((s.size : Int) ≤ x.pos) = false := decide_eq_false (by omega)
  have Z1 := hL.free 1
  have H1 := hL.c1
  go_enter Tryz.func54, Tryz.ntmps54
  go_wp2_with (first
    | (go_at_call 69; (with_reducible refine (eof_c b fb s _ _ hat).mono ?_); rintro e w' ⟨rfl, ⟨n1, rfl⟩⟩)
    | (go_at_call 77; (with_reducible refine (peek_c b fb s _ 0 _ (hat.drewN _) hp0 (by omega) (by omega) (by omega) (by omega)).mono ?_); rintro e w' ⟨rfl, ⟨n2, rfl⟩⟩)
    | (go_at_call 73; (with_reducible refine (peekIs_c b fb s _ 1 _ _ (hat.drewN _) hp0 (by omega) (by omega) (by omega)).mono ?_); rintro e w' ⟨rfl, ⟨n3, rfl⟩⟩)
    | (go_at_call 78; (with_reducible refine (skip_c b fb s _ _ (hat.drewN _) ((hL.drewN _).free 9) hp0 (by omega) hp).mono ?_); rintro e w' ⟨rfl, ⟨n4, rfl⟩⟩))
  (try simp only [Exit.inBlock, Exit.then]); refine bodyPost_ret (results_none rfl _ _ _) rfl ?_
  exact ⟨rfl, by repeat (first | exact Ups.refl _ _ | apply Ups.set | apply Ups.drewN), ((hL.drewN _).set9 _).set1 _⟩
end Go.Proofs.YtjepdlmcombmcaaGreatDoor.Lx
