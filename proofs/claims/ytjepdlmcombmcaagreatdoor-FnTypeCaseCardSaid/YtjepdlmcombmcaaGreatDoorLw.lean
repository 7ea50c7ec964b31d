/- The parser's entry: a type is parsed from a text, the guard finds no panic. Conditions: the first token's step; what the parser's type answers behind it. -/
import Derived.Test.YtjepdlmcombmcaaGreatDoorLv
namespace Go.Proofs.YtjepdlmcombmcaaGreatDoor.Lx
open Go.RowKit Go.Proofs.YtjepdlmcombmcaaGreatDoorW.PrintWords

abbrev EOFK : ByteArray := ⟨#[60, 101, 111, 102, 62]⟩
/-- The value v is the type of the name nm, or (arr) an array of it. -/
def Good (arr : Bool) (nm : ByteArray) (w : World) (v : Value) : Prop :=
  ∃ r, (arr = false ∧ v = .iface 107 (.pointer (some ⟨r, 0, none⟩)) ∧ Simple w r nm) ∨ (arr = true ∧ v = .iface 111 (.pointer (some ⟨r, 0, none⟩)) ∧ ArrayOf w r nm)
theorem Good.set {arr : Bool} {nm : ByteArray} {w : World} {v : Value} (h : Good arr nm w v) {B : Nat} {t : TypeId} {cs : Array Value} (hB : w.heap[B]? = some (.cells cs t (0, 0))) (h1 : t ≠ 110) (h2 : t ≠ 113) (i : Nat) (u : Value) : Good arr nm (w.setCell ⟨B, i, none⟩ u) v := by
  obtain ⟨r, h⟩ := h
  refine ⟨r, ?_⟩
  rcases h with ⟨ha, hv, tp, h⟩ | ⟨ha, hv, a, g, r1, h, tp, h'⟩
  · exact .inl ⟨ha, hv, tp, blk_far h (blk_ne h hB (Ne.symm h1)) u⟩
  · exact .inr ⟨ha, hv, a, g, r1, blk_far h (blk_ne h hB (Ne.symm h2)) u, tp, blk_far h' (blk_ne h' hB (Ne.symm h1)) u⟩
def Typed (b fb : Nat) (arr : Bool) (nm : ByteArray) (w : World) (e : Ending) (w' : World) : Prop :=
  ∃ T r, e = .returned (.iface T (.pointer (some ⟨r, 0, none⟩))) ∧ Ups b w w' ∧ Good arr nm w' (.iface T (.pointer (some ⟨r, 0, none⟩))) ∧ ∃ y t q, TokSt EOFK t q y ∧ IsL w' b fb y
/-- The text s is read as the type of the name nm, or as an array of it. -/
def Parses (s : ByteArray) (arr : Bool) (nm : ByteArray) : Prop :=
  ∃ k0 t0 p0, Step s 0 k0 t0 p0 ∧ ∀ W pb b fb x, IsP W pb b → IsL W b fb x → IsF W fb s → TokSt k0 t0 p0 x → Calls Tryz.prog 67 #[.pointer (some ⟨pb, 0, none⟩)] W (Typed b fb arr nm W)

theorem parses_simple {s u : ByteArray} {j p q : Int} {t : ByteArray} (h0 : Step s 0 IDENT u p) (h1 : Step s p EOFK t q) (hu : (u.size : Int) ≤ 1000000) (hj : FirstTy u j) : Parses s false (nmOf j) := by
  refine ⟨IDENT, u, p, h0, fun W pb b fb x hP hL hF hx => (type_c pb b fb x W s u j p q EOFK t hP hL hF hx h1 hu hj).mono ?_⟩
  rintro e w' ⟨r, rfl, _, _, hU, hR, y, hy, hLy⟩
  exact ⟨_, r, rfl, hU, ⟨r, .inl ⟨rfl, rfl, hR⟩⟩, y, t, q, hy, hLy⟩
theorem parses_array {s t0 t1 t3 u : ByteArray} {j p0 p1 p2 p3 q : Int} {t : ByteArray} (hS : Step s 0 ARRAY t0 p0) (hS0 : Step s p0 LT t1 p1) (hS1 : Step s p1 IDENT u p2) (hS2 : Step s p2 GT t3 p3) (hS3 : Step s p3 EOFK t q) (hu : (u.size : Int) ≤ 1000000) (hj : FirstTy u j) : Parses s true (nmOf j) := by
  refine ⟨ARRAY, t0, p0, hS, fun W pb b fb x hP hL hF hx => (typeA_c pb b fb x W s t0 t1 t3 u j p0 p1 p2 p3 q EOFK t hP hL hF hx hS0 hS1 hS2 hS3 hu hj).mono ?_⟩
  rintro e w' ⟨r, rfl, _, _, hU, hR, y, hy, hLy⟩
  exact ⟨_, r, rfl, hU, ⟨r, .inr ⟨rfl, rfl, hR⟩⟩, y, t, q, hy, hLy⟩

set_option maxRecDepth 100000 in
set_option maxHeartbeats 1000000 in
theorem parseType_c (pb b fb : Nat) (x : St) (w : World) (s : ByteArray) (arr : Bool) (nm : ByteArray) (hP : IsP w pb b) (hL : IsL w b fb x) (hF : IsF w fb s) (hc : x.com = .slice none 0 0) (hd : x.dot = false) (hp : x.pos = 0) (hS : Parses s arr nm) :
    Calls Tryz.prog 48 #[.pointer (some ⟨pb, 0, none⟩)] w fun e w' => ∃ T r, e = .returned (.tuple #[.iface T (.pointer (some ⟨r, 0, none⟩)), .nilIface]) ∧ Ups b w w' ∧ Good arr nm w' (.iface T (.pointer (some ⟨r, 0, none⟩))) := by
  obtain ⟨k0, t0, p0, hs0, hs1⟩ := hS
  have hne := hF.ne hL
  have hpb := hP.ne hL
  have hmf : ∀ (fn : Fn) (first cap : Array Value) (w : World), (Instr.makeFunc fn first cap).run Tryz.prog w = .ok (.func fn first cap) w := fun _ _ _ _ => rfl
  have hb0 := below_alloc (below_alloc (below_alloc (Below.refl w.heap.size w) (.cells #[.pointer (some ⟨pb, 0, none⟩)] 104)) (.cells #[.nilIface] 79)) (.cells #[.nilIface] 56)
  have hL0 := hL.below hb0
  have hP0 : IsP _ pb b := blk_below hP hb0
  have hF0 : IsF _ fb s := hF.ups ((Ups.refl b w).below hb0) hne
  have hbx := hL.lt
  have hpx := blk_lt hP
  have B1 := blk_alloc (blk_alloc (blk_new w (.cells #[.pointer (some ⟨pb, 0, none⟩)] 104)) (.cells #[.nilIface] 79)) (.cells #[.nilIface] 56)
  have B2 := blk_alloc (blk_new (w.alloc (.cells #[.pointer (some ⟨pb, 0, none⟩)] 104)) (.cells #[.nilIface] 79)) (.cells #[.nilIface] 56)
  have B3 := blk_new ((w.alloc (.cells #[.pointer (some ⟨pb, 0, none⟩)] 104)).alloc (.cells #[.nilIface] 79)) (.cells #[.nilIface] 56)
  have z1 : (w.alloc (.cells #[.pointer (some ⟨pb, 0, none⟩)] 104)).heap.size = w.heap.size + 1 := by simp [go_sem]
  have z2 : ((w.alloc (.cells #[.pointer (some ⟨pb, 0, none⟩)] 104)).alloc (.cells #[.nilIface] 79)).heap.size = w.heap.size + 1 + 1 := by simp [go_sem]
  rw [z1] at B2
  rw [z2] at B3
  have HC := Aside0.mk hc
  have HD := Aside0.mk hd
  have HP := Aside0.mk hp
  have HS0 := Aside0.mk hs0
  have HS1 := Aside0.mk hs1
  clear hc hd hp hs0 hs1
  go_enter_defers Tryz.func48, Tryz.ntmps48
  go_wp2_with (first
    | (go_at_call 62; (with_reducible refine (cloneLexer_c pb b fb x _ hP0 hL0 HC.out).mono ?_); rintro e w1 ⟨rfl, hb1⟩;
       have hbA := below_alloc hb1 (.cells #[.pointer (some ⟨w.heap.size + 1 + 1 + 1, 0, none⟩)] 53);
       have C1 := blk_below B1 hbA; have C2 := blk_below B2 hbA; have C3 := blk_below B3 hbA;
       have A1 := (blk_cell C1 0).trans rfl; have hLA := hL0.below hbA; have hPA : IsP _ pb b := blk_below hP0 hbA; have hFA := hF0.ups ((Ups.refl b _).below hbA) hne)
    | (go_at_call 66; (with_reducible refine (pNext_c pb b fb x _ s 0 p0 k0 t0 hPA hLA hFA HP.out HD.out HS0.out).mono ?_); rintro e w2 ⟨rfl, hU2, y2, hy2, hL2⟩;
       have D1 := hU2.obj C1 (by omega); have D2 := hU2.obj C2 (by omega); have D3 := hU2.obj C3 (by omega); have hPB := hPA.ups hU2 hpb; have hFB := hFA.ups hU2 hne; have A2 := (blk_cell D1 0).trans rfl;
       have HY2 := Aside0.mk hy2; clear hy2)
    | (go_at_call 67; (with_reducible refine (HS1.out _ pb b fb y2 hPB hL2 hFB HY2.out).mono ?_); rintro e w3 ⟨T, r, rfl, hU3, hV, y3, t3, q3, hy3, hL3⟩;
       have E1 := hU3.obj D1 (by omega); have E2 := hU3.obj D2 (by omega); have E3 := hU3.obj D3 (by omega); have hPC := hPB.ups hU3 hpb;
       have F1 := blk_far E1 (p := ⟨w.heap.size + 1, 0, none⟩) (by show w.heap.size ≠ w.heap.size + 1; omega) (.iface T (.pointer (some ⟨r, 0, none⟩)));
       have F2 := blk_put E2 0 (.iface T (.pointer (some ⟨r, 0, none⟩))) rfl;
       have F3 := blk_far E3 (p := ⟨w.heap.size + 1, 0, none⟩) (by show w.heap.size + 1 + 1 ≠ w.heap.size + 1; omega) (.iface T (.pointer (some ⟨r, 0, none⟩)));
       have hPD : IsP _ pb b := blk_far hPC (p := ⟨w.heap.size + 1, 0, none⟩) (by show pb ≠ w.heap.size + 1; omega) (.iface T (.pointer (some ⟨r, 0, none⟩)));
       have hLD : IsL _ b fb y3 := blk_far hL3 (p := ⟨w.heap.size + 1, 0, none⟩) (by show b ≠ w.heap.size + 1; omega) (.iface T (.pointer (some ⟨r, 0, none⟩)));
       have hVD := hV.set E2 (by decide) (by decide) 0 (.iface T (.pointer (some ⟨r, 0, none⟩)));
       have A3 := (blk_cell F1 0).trans rfl; have P3 := hPD.lex; have Y2 := blk_frozen E2 0; have X2 := (blk_cell E2 0).trans rfl;
       have K3 : (w3.setCell ⟨w.heap.size + 1, 0, none⟩ (.iface T (.pointer (some ⟨r, 0, none⟩)))).cell? ⟨b, 1, none⟩ = some (.string EOFK) := (by rw [← hy3.kind]; exact hLD.c1);
       have G1 := blk_far F1 (p := ⟨w.heap.size + 1, 0, none⟩) (by show w.heap.size ≠ w.heap.size + 1; omega) (.iface T (.pointer (some ⟨r, 0, none⟩)));
       have G2 := blk_put F2 0 (.iface T (.pointer (some ⟨r, 0, none⟩))) rfl;
       have G3 := blk_far F3 (p := ⟨w.heap.size + 1, 0, none⟩) (by show w.heap.size + 1 + 1 ≠ w.heap.size + 1; omega) (.iface T (.pointer (some ⟨r, 0, none⟩)));
       have hPE : IsP _ pb b := blk_far hPD (p := ⟨w.heap.size + 1, 0, none⟩) (by show pb ≠ w.heap.size + 1; omega) (.iface T (.pointer (some ⟨r, 0, none⟩)));
       have hVE := hVD.set F2 (by decide) (by decide) 0 (.iface T (.pointer (some ⟨r, 0, none⟩)));
       have X4 := (blk_cell F2 0).trans rfl; have Y4 := blk_frozen F2 0;
       have X3 := (blk_cell G3 0).trans rfl; have Y3 := blk_frozen G3 0))
  have H1 := blk_far G1 (p := ⟨w.heap.size + 1 + 1, 0, none⟩) (by show w.heap.size ≠ w.heap.size + 1 + 1; omega) .nilIface
  have H2 := blk_far G2 (p := ⟨w.heap.size + 1 + 1, 0, none⟩) (by show w.heap.size + 1 ≠ w.heap.size + 1 + 1; omega) .nilIface
  have H3 := blk_put G3 0 .nilIface rfl
  have hPF : IsP _ pb b := blk_far hPE (p := ⟨w.heap.size + 1 + 1, 0, none⟩) (by show pb ≠ w.heap.size + 1 + 1; omega) .nilIface
  have hVF := hVE.set G3 (by decide) (by decide) 0 .nilIface
  refine leaves_cons (f := 63) (args := #[.pointer (some ⟨w.heap.size, 0, none⟩), .pointer (some ⟨w1.heap.size, 0, none⟩), .pointer (some ⟨w.heap.size + 1, 0, none⟩), .pointer (some ⟨w.heap.size + 1 + 1, 0, none⟩)]) (by simp) (by simp [go_sem]) ?_
  refine (idle63 _ _ pb b _ _ _ ((blk_cell H1 0).trans rfl) ((blk_cell H3 0).trans rfl) (blk_frozen H3 0) hPF).mono ?_
  rintro e u' w'' ⟨rfl, rfl, rfl⟩
  have I2 := blk_far H2 (p := ⟨w.heap.size + 1 + 1, 0, none⟩) (by show w.heap.size + 1 ≠ w.heap.size + 1 + 1; omega) .nilIface
  have I3 := blk_put H3 0 .nilIface rfl
  have hVI := hVF.set H3 (by decide) (by decide) 0 .nilIface
  have R2 := (blk_cell I2 0).trans rfl
  have R3 := (blk_cell I3 0).trans rfl
  have U := ((((((Ups.refl b w).below hb0).below hbA).trans hU2).trans hU3).setCell (p := ⟨w.heap.size + 1, 0, none⟩) (.inr (by show w.heap.size ≤ w.heap.size + 1; omega)) (.iface T (.pointer (some ⟨r, 0, none⟩)))).setCell (p := ⟨w.heap.size + 1, 0, none⟩) (.inr (by show w.heap.size ≤ w.heap.size + 1; omega)) (.iface T (.pointer (some ⟨r, 0, none⟩)))
  have U2 := (U.setCell (p := ⟨w.heap.size + 1 + 1, 0, none⟩) (.inr (by show w.heap.size ≤ w.heap.size + 1 + 1; omega)) .nilIface).setCell (p := ⟨w.heap.size + 1 + 1, 0, none⟩) (.inr (by show w.heap.size ≤ w.heap.size + 1 + 1; omega)) .nilIface
  simp [Leaves, settle, results, Tryz.results48, go_sem, R2, R3]
  exact ⟨T, r, ⟨rfl, rfl⟩, U2, hVI⟩

/-- The lexer's state ahead of the first token. -/
def St.first : St := { kind := ⟨#[]⟩, com := .slice none 0 0, space := ⟨#[]⟩, raw := ⟨#[]⟩, txt := ⟨#[]⟩, base := 0, tp := 0, te := 0, pos := 0, last := ⟨#[]⟩, dot := false }
set_option maxHeartbeats 1000000 in
theorem newParser_c (a s : ByteArray) (w : World) :
    Calls Tryz.prog 47 #[.string a, .string s] w fun e w' => ∃ pb b fb, e = .returned (.pointer (some ⟨pb, 0, none⟩)) ∧ Below w.heap.size w w' ∧ w.heap.size ≤ b ∧ IsP w' pb b ∧ IsL w' b fb St.first ∧ IsF w' fb s := by
  go_enter Tryz.func47, Tryz.ntmps47
  go_wp2
  go_ret
  refine ⟨w.heap.size + 1 + 1, w.heap.size + 1, w.heap.size, rfl, below_alloc (below_alloc (below_alloc (Below.refl _ _) _) _) _, by omega, ?_, ?_, ⟨a, _, blk_alloc (blk_alloc (blk_new w _) _) _⟩⟩
  · have h := fun A B C => blk_new ((w.alloc A).alloc B) C
    have z : ∀ A B, ((w.alloc A).alloc B).heap.size = w.heap.size + 1 + 1 := by intro A B; simp [go_sem]
    simp only [z] at h
    exact h _ _ _
  · have h := fun A B C => blk_alloc (blk_new (w.alloc A) B) C
    have z : ∀ A, (w.alloc A).heap.size = w.heap.size + 1 := by intro A; simp [go_sem]
    simp only [z] at h
    exact h _ _ _

theorem parse_c (a s : ByteArray) (arr : Bool) (nm : ByteArray) (w : World) (hS : Parses s arr nm) :
    Calls Tryz.prog 31 #[.string a, .string s] w fun e w' => ∃ T r, e = .returned (.tuple #[.iface T (.pointer (some ⟨r, 0, none⟩)), .nilIface]) ∧ Below w.heap.size w w' ∧ Good arr nm w' (.iface T (.pointer (some ⟨r, 0, none⟩))) := by
  have HS := Aside0.mk hS
  clear hS
  go_enter Tryz.func31, Tryz.ntmps31
  go_wp2_with (first
    | (go_at_call 47; (with_reducible refine (newParser_c a s _).mono ?_); rintro e w1 ⟨pb, b, fb, rfl, hb1, hbb, hP1, hL1, hF1⟩)
    | (go_at_call 48; (with_reducible refine (parseType_c pb b fb _ _ s arr nm hP1 hL1 hF1 rfl rfl rfl HS.out).mono ?_); rintro e w2 ⟨T, r, rfl, hU2, hV⟩))
  refine bodyPost_ret (results_tmp2 rfl _ _ _) rfl ?_
  exact ⟨T, r, rfl, hb1.trans (hU2.to_below hbb hb1.size), hV⟩
end Go.Proofs.YtjepdlmcombmcaaGreatDoor.Lx
