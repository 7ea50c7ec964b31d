/- Quoted contents: what consumeQuotedContent leaves. Conditions: the lexer's state; the text is one of those that are spoken of; the closing mark's bytes. -/
import Derived.Test.YtjepdlmcombmcaaGreatDoorNo
namespace Go.Proofs.YtjepdlmcombmcaaGreatDoor.Lx
open Go.RowKit Go.Proofs.YtjepdlmcombmcaaGreatDoorW.PrintWords

/-- The closing mark q of L bytes c. -/
structure Mark (s q : ByteArray) (c L : Int) : Prop where
  sz : (q.size : Int) = L
  one : L = 1 ∨ L = 3
  c0 : c ≠ 0
  cut : ∀ i : Int, 0 ≤ i → i ≤ (s.size : Int) → ((s.extract i.toNat (i + L).toNat).toList == q.toList) = isQ s c L i
theorem Lx0.below {w w1 : World} {b fb : Nat} {s : ByteArray} {x : St} (h : Lx0 w b fb s x) (hb : Below w.heap.size w w1) : Lx0 w1 b fb s x := h.step ((Ups.refl b w).below hb) (h.l.below hb)
theorem Lx0.drew {w : World} {b fb : Nat} {s : ByteArray} {x : St} (h : Lx0 w b fb s x) : Lx0 w.drew b fb s x := h.step ((Ups.refl b w).drew) h.l.drew
theorem OwnN.shape' {w : World} {base n m : Nat} {v : Value} {xs ys : List Int} (h : OwnN w base v (xs ++ ys)) (hn : n = xs.length) (hm : ys.length = m) : ∃ A C, v = .slice A (n + m) C := by
  obtain ⟨A, C, hv⟩ := h.shape
  exact ⟨A, C, by rw [hv, List.length_append, hn, hm]⟩
theorem wp_gen {P : Program} {c : Code} {Q : Exit → Act → World → Prop} {a : Act} {w0 : World} {n : Nat} (h : ∀ wz, (∃ m, wz = w0.drewN m) → Code.wp P c Q a wz) : Code.wp P c Q a (w0.drewN n) := h _ ⟨n, rfl⟩
def Quotes (b fb : Nat) (x : St) (isId : Bool) (r : Option Int) (w : World) (e : Ending) (w' : World) : Prop :=
  match r with
  | some q => if isId = true ∧ q = x.pos + 2 then Fails b fb w e w' else (∃ t, e = .returned (.tuple #[.string t, .bool false])) ∧ Ups b w w' ∧ IsL w' b fb { x with pos := q }
  | none => Fails b fb w e w'
theorem esc_raw {s : ByteArray} {i : Int} {bytes : Bool} (h : i + 1 < (s.size : Int)) : esc s true bytes i = some (i + 2) := by
  unfold esc
  rw [if_neg (by omega), if_pos rfl]
theorem Quotes.bad {b fb : Nat} {x : St} {q : Int} {w w' : World} {e : Ending} (hq : q = x.pos + 2) (h : Fails b fb w e w') : Quotes b fb x true (some q) w e w' := by
  show if true = true ∧ q = x.pos + 2 then Fails b fb w e w' else _
  rw [if_pos ⟨rfl, hq⟩]
  exact h
theorem Quotes.ok {b fb : Nat} {x : St} {isId : Bool} {q : Int} {w w' : World} {t : ByteArray} (hn : ¬ (isId = true ∧ q = x.pos + 2)) (hU : Ups b w w') (hL : IsL w' b fb { x with pos := q }) : Quotes b fb x isId (some q) w (.returned (.tuple #[.string t, .bool false])) w' := by
  show if isId = true ∧ q = x.pos + 2 then _ else _
  rw [if_neg hn]
  exact ⟨⟨t, rfl⟩, hU, hL⟩
structure U20 where
  f0 : Value
  f1 : Value
  f2 : Value
  f3 : Value
  f4 : Value
  f5 : Value
  f6 : Value
  f7 : Value
  f8 : Value
  f9 : Value
  f10 : Value
  f11 : Value
  f12 : Value
  f13 : Value
  f14 : Value
  f15 : Value
  f16 : Value
  f17 : Value
  f18 : Value
  f19 : Value
set_option maxRecDepth 100000 in
def frame83 (b : Nat) (q : ByteArray) (raw uni : Bool) (nm : ByteArray) (L : Int) (u34 u35 : Value) (i : Int) (v : Value) (a0 a1 a2 a3 a4 a5 a6 a7 a8 a9 a10 a11 a12 a13 a14 a15 a16 a17 a18 a19 a20 a21 a22 a23 : U20) : Act := ⟨List.toArray (
  (.pointer (some ⟨b, 0, none⟩)) :: (.string q) :: (.bool raw) :: (.bool uni) :: (.string nm) :: (.bool false) :: (undef) :: (undef) ::
  (undef) :: (undef) :: (undef) :: (undef) :: (a0.f0) :: (a0.f1) :: (.int .i64 i) :: (v) ::
  (.bool false) :: (a0.f2) :: (a0.f3) :: (a0.f4) :: (a0.f5) :: (a0.f6) :: (a0.f7) :: (a0.f8) ::
  (a0.f9) :: (a0.f10) :: (a0.f11) :: (a0.f12) :: (a0.f13) :: (a0.f14) :: (a0.f15) :: (.string q) ::
  (.int .i64 L) :: (.bool (L == 3)) :: (u34) :: (u35) :: (.string q) :: (.int .i64 L) :: (a0.f16) :: (a0.f17) ::
  (a0.f18) :: (a0.f19) :: (a1.f0) :: (a1.f1) :: (a1.f2) :: (a1.f3) :: (a1.f4) :: (a1.f5) ::
  (a1.f6) :: (a1.f7) :: (a1.f8) :: (a1.f9) :: (a1.f10) :: (a1.f11) :: (a1.f12) :: (a1.f13) ::
  (a1.f14) :: (a1.f15) :: (a1.f16) :: (a1.f17) :: (a1.f18) :: (a1.f19) :: (a2.f0) :: (a2.f1) ::
  (a2.f2) :: (a2.f3) :: (a2.f4) :: (a2.f5) :: (a2.f6) :: (a2.f7) :: (a2.f8) :: (a2.f9) ::
  (a2.f10) :: (a2.f11) :: (a2.f12) :: (a2.f13) :: (a2.f14) :: (a2.f15) :: (a2.f16) :: (a2.f17) ::
  (a2.f18) :: (a2.f19) :: (a3.f0) :: (a3.f1) :: (a3.f2) :: (a3.f3) :: (a3.f4) :: (a3.f5) ::
  (a3.f6) :: (a3.f7) :: (a3.f8) :: (a3.f9) :: (a3.f10) :: (a3.f11) :: (a3.f12) :: (a3.f13) ::
  (a3.f14) :: (a3.f15) :: (a3.f16) :: (a3.f17) :: (a3.f18) :: (a3.f19) :: (a4.f0) :: (a4.f1) ::
  (a4.f2) :: (a4.f3) :: (a4.f4) :: (a4.f5) :: (a4.f6) :: (a4.f7) :: (a4.f8) :: (a4.f9) ::
  (a4.f10) :: (a4.f11) :: (a4.f12) :: (a4.f13) :: (a4.f14) :: (a4.f15) :: (a4.f16) :: (a4.f17) ::
  (a4.f18) :: (a4.f19) :: (a5.f0) :: (a5.f1) :: (a5.f2) :: (a5.f3) :: (a5.f4) :: (a5.f5) ::
  (a5.f6) :: (a5.f7) :: (a5.f8) :: (a5.f9) :: (a5.f10) :: (a5.f11) :: (a5.f12) :: (a5.f13) ::
  (a5.f14) :: (a5.f15) :: (a5.f16) :: (a5.f17) :: (a5.f18) :: (a5.f19) :: (a6.f0) :: (a6.f1) ::
  (a6.f2) :: (a6.f3) :: (a6.f4) :: (a6.f5) :: (a6.f6) :: (a6.f7) :: (a6.f8) :: (a6.f9) ::
  (a6.f10) :: (a6.f11) :: (a6.f12) :: (a6.f13) :: (a6.f14) :: (a6.f15) :: (a6.f16) :: (a6.f17) ::
  (a6.f18) :: (a6.f19) :: (a7.f0) :: (a7.f1) :: (a7.f2) :: (a7.f3) :: (a7.f4) :: (a7.f5) ::
  (a7.f6) :: (a7.f7) :: (a7.f8) :: (a7.f9) :: (a7.f10) :: (a7.f11) :: (a7.f12) :: (a7.f13) ::
  (a7.f14) :: (a7.f15) :: (a7.f16) :: (a7.f17) :: (a7.f18) :: (a7.f19) :: (a8.f0) :: (a8.f1) ::
  (a8.f2) :: (a8.f3) :: (a8.f4) :: (a8.f5) :: (a8.f6) :: (a8.f7) :: (a8.f8) :: (a8.f9) ::
  (a8.f10) :: (a8.f11) :: (a8.f12) :: (a8.f13) :: (a8.f14) :: (a8.f15) :: (a8.f16) :: (a8.f17) ::
  (a8.f18) :: (a8.f19) :: (a9.f0) :: (a9.f1) :: (a9.f2) :: (a9.f3) :: (a9.f4) :: (a9.f5) ::
  (a9.f6) :: (a9.f7) :: (a9.f8) :: (a9.f9) :: (a9.f10) :: (a9.f11) :: (a9.f12) :: (a9.f13) ::
  (a9.f14) :: (a9.f15) :: (a9.f16) :: (a9.f17) :: (a9.f18) :: (a9.f19) :: (a10.f0) :: (a10.f1) ::
  (a10.f2) :: (a10.f3) :: (a10.f4) :: (a10.f5) :: (a10.f6) :: (a10.f7) :: (a10.f8) :: (a10.f9) ::
  (a10.f10) :: (a10.f11) :: (a10.f12) :: (a10.f13) :: (a10.f14) :: (a10.f15) :: (a10.f16) :: (a10.f17) ::
  (a10.f18) :: (a10.f19) :: (a11.f0) :: (a11.f1) :: (a11.f2) :: (a11.f3) :: (a11.f4) :: (a11.f5) ::
  (a11.f6) :: (a11.f7) :: (a11.f8) :: (a11.f9) :: (a11.f10) :: (a11.f11) :: (a11.f12) :: (a11.f13) ::
  (a11.f14) :: (a11.f15) :: (a11.f16) :: (a11.f17) :: (a11.f18) :: (a11.f19) :: (a12.f0) :: (a12.f1) ::
  (a12.f2) :: (a12.f3) :: (a12.f4) :: (a12.f5) :: (a12.f6) :: (a12.f7) :: (a12.f8) :: (a12.f9) ::
  (a12.f10) :: (a12.f11) :: (a12.f12) :: (a12.f13) :: (a12.f14) :: (a12.f15) :: (a12.f16) :: (a12.f17) ::
  (a12.f18) :: (a12.f19) :: (a13.f0) :: (a13.f1) :: (a13.f2) :: (a13.f3) :: (a13.f4) :: (a13.f5) ::
  (a13.f6) :: (a13.f7) :: (a13.f8) :: (a13.f9) :: (a13.f10) :: (a13.f11) :: (a13.f12) :: (a13.f13) ::
  (a13.f14) :: (a13.f15) :: (a13.f16) :: (a13.f17) :: (a13.f18) :: (a13.f19) :: (a14.f0) :: (a14.f1) ::
  (a14.f2) :: (a14.f3) :: (a14.f4) :: (a14.f5) :: (a14.f6) :: (a14.f7) :: (a14.f8) :: (a14.f9) ::
  (a14.f10) :: (a14.f11) :: (a14.f12) :: (a14.f13) :: (a14.f14) :: (a14.f15) :: (a14.f16) :: (a14.f17) ::
  (a14.f18) :: (a14.f19) :: (a15.f0) :: (a15.f1) :: (a15.f2) :: (a15.f3) :: (a15.f4) :: (a15.f5) ::
  (a15.f6) :: (a15.f7) :: (a15.f8) :: (a15.f9) :: (a15.f10) :: (a15.f11) :: (a15.f12) :: (a15.f13) ::
  (a15.f14) :: (a15.f15) :: (a15.f16) :: (a15.f17) :: (a15.f18) :: (a15.f19) :: (a16.f0) :: (a16.f1) ::
  (a16.f2) :: (a16.f3) :: (a16.f4) :: (a16.f5) :: (a16.f6) :: (a16.f7) :: (a16.f8) :: (a16.f9) ::
  (a16.f10) :: (a16.f11) :: (a16.f12) :: (a16.f13) :: (a16.f14) :: (a16.f15) :: (a16.f16) :: (a16.f17) ::
  (a16.f18) :: (a16.f19) :: (a17.f0) :: (a17.f1) :: (a17.f2) :: (a17.f3) :: (a17.f4) :: (a17.f5) ::
  (a17.f6) :: (a17.f7) :: (a17.f8) :: (a17.f9) :: (a17.f10) :: (a17.f11) :: (a17.f12) :: (a17.f13) ::
  (a17.f14) :: (a17.f15) :: (a17.f16) :: (a17.f17) :: (a17.f18) :: (a17.f19) :: (a18.f0) :: (a18.f1) ::
  (a18.f2) :: (a18.f3) :: (a18.f4) :: (a18.f5) :: (a18.f6) :: (a18.f7) :: (a18.f8) :: (a18.f9) ::
  (a18.f10) :: (a18.f11) :: (a18.f12) :: (a18.f13) :: (a18.f14) :: (a18.f15) :: (a18.f16) :: (a18.f17) ::
  (a18.f18) :: (a18.f19) :: (a19.f0) :: (a19.f1) :: (a19.f2) :: (a19.f3) :: (a19.f4) :: (a19.f5) ::
  (a19.f6) :: (a19.f7) :: (a19.f8) :: (a19.f9) :: (a19.f10) :: (a19.f11) :: (a19.f12) :: (a19.f13) ::
  (a19.f14) :: (a19.f15) :: (a19.f16) :: (a19.f17) :: (a19.f18) :: (a19.f19) :: (a20.f0) :: (a20.f1) ::
  (a20.f2) :: (a20.f3) :: (a20.f4) :: (a20.f5) :: (a20.f6) :: (a20.f7) :: (a20.f8) :: (a20.f9) ::
  (a20.f10) :: (a20.f11) :: (a20.f12) :: (a20.f13) :: (a20.f14) :: (a20.f15) :: (a20.f16) :: (a20.f17) ::
  (a20.f18) :: (a20.f19) :: (a21.f0) :: (a21.f1) :: (a21.f2) :: (a21.f3) :: (a21.f4) :: (a21.f5) ::
  (a21.f6) :: (a21.f7) :: (a21.f8) :: (a21.f9) :: (a21.f10) :: (a21.f11) :: (a21.f12) :: (a21.f13) ::
  (a21.f14) :: (a21.f15) :: (a21.f16) :: (a21.f17) :: (a21.f18) :: (a21.f19) :: (a22.f0) :: (a22.f1) ::
  (a22.f2) :: (a22.f3) :: (a22.f4) :: (a22.f5) :: (a22.f6) :: (a22.f7) :: (a22.f8) :: (a22.f9) ::
  (a22.f10) :: (a22.f11) :: (a22.f12) :: (a22.f13) :: (a22.f14) :: (a22.f15) :: (a22.f16) :: (a22.f17) ::
  (a22.f18) :: (a22.f19) :: (a23.f0) :: (a23.f1) :: (a23.f2) :: (a23.f3) :: (a23.f4) :: (a23.f5) ::
  (a23.f6) :: (a23.f7) :: (a23.f8) :: (a23.f9) :: (a23.f10) :: (a23.f11) :: (a23.f12) :: (undef) ::
  (undef) :: (undef) :: (undef) :: (undef) :: (undef) :: (undef) :: (undef) :: (undef) ::
  (undef) :: (undef) :: (undef) :: (undef) :: (undef) :: (undef) :: (undef) :: (undef) :: []), []⟩
set_option maxRecDepth 100000 in
theorem to_frame83 {b : Nat} {q : ByteArray} {raw uni : Bool} {nm : ByteArray} {L : Int} {u34 u35 : Value} {i : Int} {v : Value} {e12 e13 e17 e18 e19 e20 e21 e22 e23 e24 e25 e26 e27 e28 e29 e30 e38 e39 e40 e41 e42 e43 e44 e45 e46 e47 e48 e49 e50 e51 e52 e53 e54 e55 e56 e57 e58 e59 e60 e61 e62 e63 e64 e65 e66 e67 e68 e69 e70 e71 e72 e73 e74 e75 e76 e77 e78 e79 e80 e81 e82 e83 e84 e85 e86 e87 e88 e89 e90 e91 e92 e93 e94 e95 e96 e97 e98 e99 e100 e101 e102 e103 e104 e105 e106 e107 e108 e109 e110 e111 e112 e113 e114 e115 e116 e117 e118 e119 e120 e121 e122 e123 e124 e125 e126 e127 e128 e129 e130 e131 e132 e133 e134 e135 e136 e137 e138 e139 e140 e141 e142 e143 e144 e145 e146 e147 e148 e149 e150 e151 e152 e153 e154 e155 e156 e157 e158 e159 e160 e161 e162 e163 e164 e165 e166 e167 e168 e169 e170 e171 e172 e173 e174 e175 e176 e177 e178 e179 e180 e181 e182 e183 e184 e185 e186 e187 e188 e189 e190 e191 e192 e193 e194 e195 e196 e197 e198 e199 e200 e201 e202 e203 e204 e205 e206 e207 e208 e209 e210 e211 e212 e213 e214 e215 e216 e217 e218 e219 e220 e221 e222 e223 e224 e225 e226 e227 e228 e229 e230 e231 e232 e233 e234 e235 e236 e237 e238 e239 e240 e241 e242 e243 e244 e245 e246 e247 e248 e249 e250 e251 e252 e253 e254 e255 e256 e257 e258 e259 e260 e261 e262 e263 e264 e265 e266 e267 e268 e269 e270 e271 e272 e273 e274 e275 e276 e277 e278 e279 e280 e281 e282 e283 e284 e285 e286 e287 e288 e289 e290 e291 e292 e293 e294 e295 e296 e297 e298 e299 e300 e301 e302 e303 e304 e305 e306 e307 e308 e309 e310 e311 e312 e313 e314 e315 e316 e317 e318 e319 e320 e321 e322 e323 e324 e325 e326 e327 e328 e329 e330 e331 e332 e333 e334 e335 e336 e337 e338 e339 e340 e341 e342 e343 e344 e345 e346 e347 e348 e349 e350 e351 e352 e353 e354 e355 e356 e357 e358 e359 e360 e361 e362 e363 e364 e365 e366 e367 e368 e369 e370 e371 e372 e373 e374 e375 e376 e377 e378 e379 e380 e381 e382 e383 e384 e385 e386 e387 e388 e389 e390 e391 e392 e393 e394 e395 e396 e397 e398 e399 e400 e401 e402 e403 e404 e405 e406 e407 e408 e409 e410 e411 e412 e413 e414 e415 e416 e417 e418 e419 e420 e421 e422 e423 e424 e425 e426 e427 e428 e429 e430 e431 e432 e433 e434 e435 e436 e437 e438 e439 e440 e441 e442 e443 e444 e445 e446 e447 e448 e449 e450 e451 e452 e453 e454 e455 e456 e457 e458 e459 e460 e461 e462 e463 e464 e465 e466 e467 e468 e469 e470 e471 e472 e473 e474 e475 e476 e477 e478 e479 e480 e481 e482 e483 e484 e485 e486 e487 e488 e489 e490 e491 e492 e493 e494 : Value} : ∃ a0 a1 a2 a3 a4 a5 a6 a7 a8 a9 a10 a11 a12 a13 a14 a15 a16 a17 a18 a19 a20 a21 a22 a23 : U20, (⟨List.toArray (
  (.pointer (some ⟨b, 0, none⟩)) :: (.string q) :: (.bool raw) :: (.bool uni) :: (.string nm) :: (.bool false) :: (undef) :: (undef) ::
  (undef) :: (undef) :: (undef) :: (undef) :: (e12) :: (e13) :: (.int .i64 i) :: (v) ::
  (.bool false) :: (e17) :: (e18) :: (e19) :: (e20) :: (e21) :: (e22) :: (e23) ::
  (e24) :: (e25) :: (e26) :: (e27) :: (e28) :: (e29) :: (e30) :: (.string q) ::
  (.int .i64 L) :: (.bool (L == 3)) :: (u34) :: (u35) :: (.string q) :: (.int .i64 L) :: (e38) :: (e39) ::
  (e40) :: (e41) :: (e42) :: (e43) :: (e44) :: (e45) :: (e46) :: (e47) ::
  (e48) :: (e49) :: (e50) :: (e51) :: (e52) :: (e53) :: (e54) :: (e55) ::
  (e56) :: (e57) :: (e58) :: (e59) :: (e60) :: (e61) :: (e62) :: (e63) ::
  (e64) :: (e65) :: (e66) :: (e67) :: (e68) :: (e69) :: (e70) :: (e71) ::
  (e72) :: (e73) :: (e74) :: (e75) :: (e76) :: (e77) :: (e78) :: (e79) ::
  (e80) :: (e81) :: (e82) :: (e83) :: (e84) :: (e85) :: (e86) :: (e87) ::
  (e88) :: (e89) :: (e90) :: (e91) :: (e92) :: (e93) :: (e94) :: (e95) ::
  (e96) :: (e97) :: (e98) :: (e99) :: (e100) :: (e101) :: (e102) :: (e103) ::
  (e104) :: (e105) :: (e106) :: (e107) :: (e108) :: (e109) :: (e110) :: (e111) ::
  (e112) :: (e113) :: (e114) :: (e115) :: (e116) :: (e117) :: (e118) :: (e119) ::
  (e120) :: (e121) :: (e122) :: (e123) :: (e124) :: (e125) :: (e126) :: (e127) ::
  (e128) :: (e129) :: (e130) :: (e131) :: (e132) :: (e133) :: (e134) :: (e135) ::
  (e136) :: (e137) :: (e138) :: (e139) :: (e140) :: (e141) :: (e142) :: (e143) ::
  (e144) :: (e145) :: (e146) :: (e147) :: (e148) :: (e149) :: (e150) :: (e151) ::
  (e152) :: (e153) :: (e154) :: (e155) :: (e156) :: (e157) :: (e158) :: (e159) ::
  (e160) :: (e161) :: (e162) :: (e163) :: (e164) :: (e165) :: (e166) :: (e167) ::
  (e168) :: (e169) :: (e170) :: (e171) :: (e172) :: (e173) :: (e174) :: (e175) ::
  (e176) :: (e177) :: (e178) :: (e179) :: (e180) :: (e181) :: (e182) :: (e183) ::
  (e184) :: (e185) :: (e186) :: (e187) :: (e188) :: (e189) :: (e190) :: (e191) ::
  (e192) :: (e193) :: (e194) :: (e195) :: (e196) :: (e197) :: (e198) :: (e199) ::
  (e200) :: (e201) :: (e202) :: (e203) :: (e204) :: (e205) :: (e206) :: (e207) ::
  (e208) :: (e209) :: (e210) :: (e211) :: (e212) :: (e213) :: (e214) :: (e215) ::
  (e216) :: (e217) :: (e218) :: (e219) :: (e220) :: (e221) :: (e222) :: (e223) ::
  (e224) :: (e225) :: (e226) :: (e227) :: (e228) :: (e229) :: (e230) :: (e231) ::
  (e232) :: (e233) :: (e234) :: (e235) :: (e236) :: (e237) :: (e238) :: (e239) ::
  (e240) :: (e241) :: (e242) :: (e243) :: (e244) :: (e245) :: (e246) :: (e247) ::
  (e248) :: (e249) :: (e250) :: (e251) :: (e252) :: (e253) :: (e254) :: (e255) ::
  (e256) :: (e257) :: (e258) :: (e259) :: (e260) :: (e261) :: (e262) :: (e263) ::
  (e264) :: (e265) :: (e266) :: (e267) :: (e268) :: (e269) :: (e270) :: (e271) ::
  (e272) :: (e273) :: (e274) :: (e275) :: (e276) :: (e277) :: (e278) :: (e279) ::
  (e280) :: (e281) :: (e282) :: (e283) :: (e284) :: (e285) :: (e286) :: (e287) ::
  (e288) :: (e289) :: (e290) :: (e291) :: (e292) :: (e293) :: (e294) :: (e295) ::
  (e296) :: (e297) :: (e298) :: (e299) :: (e300) :: (e301) :: (e302) :: (e303) ::
  (e304) :: (e305) :: (e306) :: (e307) :: (e308) :: (e309) :: (e310) :: (e311) ::
  (e312) :: (e313) :: (e314) :: (e315) :: (e316) :: (e317) :: (e318) :: (e319) ::
  (e320) :: (e321) :: (e322) :: (e323) :: (e324) :: (e325) :: (e326) :: (e327) ::
  (e328) :: (e329) :: (e330) :: (e331) :: (e332) :: (e333) :: (e334) :: (e335) ::
  (e336) :: (e337) :: (e338) :: (e339) :: (e340) :: (e341) :: (e342) :: (e343) ::
  (e344) :: (e345) :: (e346) :: (e347) :: (e348) :: (e349) :: (e350) :: (e351) ::
  (e352) :: (e353) :: (e354) :: (e355) :: (e356) :: (e357) :: (e358) :: (e359) ::
  (e360) :: (e361) :: (e362) :: (e363) :: (e364) :: (e365) :: (e366) :: (e367) ::
  (e368) :: (e369) :: (e370) :: (e371) :: (e372) :: (e373) :: (e374) :: (e375) ::
  (e376) :: (e377) :: (e378) :: (e379) :: (e380) :: (e381) :: (e382) :: (e383) ::
  (e384) :: (e385) :: (e386) :: (e387) :: (e388) :: (e389) :: (e390) :: (e391) ::
  (e392) :: (e393) :: (e394) :: (e395) :: (e396) :: (e397) :: (e398) :: (e399) ::
  (e400) :: (e401) :: (e402) :: (e403) :: (e404) :: (e405) :: (e406) :: (e407) ::
  (e408) :: (e409) :: (e410) :: (e411) :: (e412) :: (e413) :: (e414) :: (e415) ::
  (e416) :: (e417) :: (e418) :: (e419) :: (e420) :: (e421) :: (e422) :: (e423) ::
  (e424) :: (e425) :: (e426) :: (e427) :: (e428) :: (e429) :: (e430) :: (e431) ::
  (e432) :: (e433) :: (e434) :: (e435) :: (e436) :: (e437) :: (e438) :: (e439) ::
  (e440) :: (e441) :: (e442) :: (e443) :: (e444) :: (e445) :: (e446) :: (e447) ::
  (e448) :: (e449) :: (e450) :: (e451) :: (e452) :: (e453) :: (e454) :: (e455) ::
  (e456) :: (e457) :: (e458) :: (e459) :: (e460) :: (e461) :: (e462) :: (e463) ::
  (e464) :: (e465) :: (e466) :: (e467) :: (e468) :: (e469) :: (e470) :: (e471) ::
  (e472) :: (e473) :: (e474) :: (e475) :: (e476) :: (e477) :: (e478) :: (e479) ::
  (e480) :: (e481) :: (e482) :: (e483) :: (e484) :: (e485) :: (e486) :: (e487) ::
  (e488) :: (e489) :: (e490) :: (e491) :: (e492) :: (e493) :: (e494) :: (undef) ::
  (undef) :: (undef) :: (undef) :: (undef) :: (undef) :: (undef) :: (undef) :: (undef) ::
  (undef) :: (undef) :: (undef) :: (undef) :: (undef) :: (undef) :: (undef) :: (undef) ::
 []), []⟩ : Act) = frame83 b q raw uni nm L u34 u35 i v a0 a1 a2 a3 a4 a5 a6 a7 a8 a9 a10 a11 a12 a13 a14 a15 a16 a17 a18 a19 a20 a21 a22 a23 := ⟨⟨e12, e13, e17, e18, e19, e20, e21, e22, e23, e24, e25, e26, e27, e28, e29, e30, e38, e39, e40, e41⟩, ⟨e42, e43, e44, e45, e46, e47, e48, e49, e50, e51, e52, e53, e54, e55, e56, e57, e58, e59, e60, e61⟩, ⟨e62, e63, e64, e65, e66, e67, e68, e69, e70, e71, e72, e73, e74, e75, e76, e77, e78, e79, e80, e81⟩, ⟨e82, e83, e84, e85, e86, e87, e88, e89, e90, e91, e92, e93, e94, e95, e96, e97, e98, e99, e100, e101⟩, ⟨e102, e103, e104, e105, e106, e107, e108, e109, e110, e111, e112, e113, e114, e115, e116, e117, e118, e119, e120, e121⟩, ⟨e122, e123, e124, e125, e126, e127, e128, e129, e130, e131, e132, e133, e134, e135, e136, e137, e138, e139, e140, e141⟩, ⟨e142, e143, e144, e145, e146, e147, e148, e149, e150, e151, e152, e153, e154, e155, e156, e157, e158, e159, e160, e161⟩, ⟨e162, e163, e164, e165, e166, e167, e168, e169, e170, e171, e172, e173, e174, e175, e176, e177, e178, e179, e180, e181⟩, ⟨e182, e183, e184, e185, e186, e187, e188, e189, e190, e191, e192, e193, e194, e195, e196, e197, e198, e199, e200, e201⟩, ⟨e202, e203, e204, e205, e206, e207, e208, e209, e210, e211, e212, e213, e214, e215, e216, e217, e218, e219, e220, e221⟩, ⟨e222, e223, e224, e225, e226, e227, e228, e229, e230, e231, e232, e233, e234, e235, e236, e237, e238, e239, e240, e241⟩, ⟨e242, e243, e244, e245, e246, e247, e248, e249, e250, e251, e252, e253, e254, e255, e256, e257, e258, e259, e260, e261⟩, ⟨e262, e263, e264, e265, e266, e267, e268, e269, e270, e271, e272, e273, e274, e275, e276, e277, e278, e279, e280, e281⟩, ⟨e282, e283, e284, e285, e286, e287, e288, e289, e290, e291, e292, e293, e294, e295, e296, e297, e298, e299, e300, e301⟩, ⟨e302, e303, e304, e305, e306, e307, e308, e309, e310, e311, e312, e313, e314, e315, e316, e317, e318, e319, e320, e321⟩, ⟨e322, e323, e324, e325, e326, e327, e328, e329, e330, e331, e332, e333, e334, e335, e336, e337, e338, e339, e340, e341⟩, ⟨e342, e343, e344, e345, e346, e347, e348, e349, e350, e351, e352, e353, e354, e355, e356, e357, e358, e359, e360, e361⟩, ⟨e362, e363, e364, e365, e366, e367, e368, e369, e370, e371, e372, e373, e374, e375, e376, e377, e378, e379, e380, e381⟩, ⟨e382, e383, e384, e385, e386, e387, e388, e389, e390, e391, e392, e393, e394, e395, e396, e397, e398, e399, e400, e401⟩, ⟨e402, e403, e404, e405, e406, e407, e408, e409, e410, e411, e412, e413, e414, e415, e416, e417, e418, e419, e420, e421⟩, ⟨e422, e423, e424, e425, e426, e427, e428, e429, e430, e431, e432, e433, e434, e435, e436, e437, e438, e439, e440, e441⟩, ⟨e442, e443, e444, e445, e446, e447, e448, e449, e450, e451, e452, e453, e454, e455, e456, e457, e458, e459, e460, e461⟩, ⟨e462, e463, e464, e465, e466, e467, e468, e469, e470, e471, e472, e473, e474, e475, e476, e477, e478, e479, e480, e481⟩, ⟨e482, e483, e484, e485, e486, e487, e488, e489, e490, e491, e492, e493, e494, undef, undef, undef, undef, undef, undef, undef⟩, rfl⟩

set_option maxRecDepth 100000 in
set_option maxHeartbeats 8000000 in
theorem quoted_true (w : World) (b fb : Nat) (x : St) (s q nm : ByteArray) (c L : Int) (uni isId : Bool) (h : Lx0 w b fb s x) (hT : Txt s) (hM : Mark s q c L) (hp0 : 0 ≤ x.pos) (hp1 : x.pos + L ≤ (s.size : Int)) (hnm : nm.size ≤ 1000)
    (hid : (nm.toList == [105, 100, 101, 110, 116, 105, 102, 105, 101, 114]) = isId) (hid3 : L = 3 → ((⟨#[116, 114, 105, 112, 108, 101, 45, 113, 117, 111, 116, 101, 100, 32]⟩ ++ nm : ByteArray).toList == [105, 100, 101, 110, 116, 105, 102, 105, 101, 114]) = isId) (hidL : isId = true → L = 1) :
    Calls Tryz.prog 83 #[.pointer (some ⟨b, 0, none⟩), .string q, .bool true, .bool uni, .string nm, .bool false] w (Quotes b fb x isId (quoA s c L true (!uni) (x.pos + L)) w) := by
  have hs : (s.size : Int) ≤ 5000 := by have := hT.size; omega
  have hL0 := hM.one
  have hqs := hM.sz
  have hqz : ¬ 9223372036854775807 < 14 + nm.size := by omega
  obtain ⟨R, hR⟩ : ∃ R, quoA s c L true (!uni) (x.pos + L) = R := ⟨_, rfl⟩
  have HR := Aside0.mk hR
  rw [hR]
  clear hR
  have HID := Aside0.mk hid3
  have HIDL := Aside0.mk hidL
  clear hid3 hidL
  go_enter Tryz.func83, Tryz.ntmps83
  go_upto_if 33 with fail
  go_cut [4] from 34 to 35 (fun s4 wx => ∃ nm' : ByteArray, s4 = .string nm' ∧ Aside0 ((nm'.toList == [105, 100, 101, 110, 116, 105, 102, 105, 101, 114]) = isId) ∧ wx = w)
  case first =>
    rcases hL0 with hl | hl
    · have hd : ((q.size : Int) == 3) = false := beqf (by omega)
      go_wp2_with fail
      go_meet
      exact ⟨nm, rfl, ⟨hid⟩, rfl⟩
    · have hd : ((q.size : Int) == 3) = true := by rw [hqs, hl]; rfl
      go_wp2_with fail
      go_meet
      exact ⟨_, rfl, ⟨HID.out hl⟩, rfl⟩
  case rest =>
    obtain ⟨nm', rfl, HN, hwc⟩ := hcut
    obtain rfl := hwc.symm
    go_wp2_with fail
    refine wp_loop_ghost_k (fun k' a' w' => ∃ (i : Int) (A : Option Addr) (C n : Nat) (xs : List Int), (Aside0 (n = xs.length ∧ L ≤ i ∧ x.pos + i ≤ (s.size : Int) ∧ quoA s c L true (!uni) (x.pos + i) = R ∧ ((s.size : Int) - (x.pos + i)).toNat < k' ∧ (xs = [] ↔ i = L) ∧ (n : Int) ≤ 4 * i) ∧ Aside0 (Below w.heap.size w w') ∧ Aside0 (OwnN w' w.heap.size (.slice A n C) xs)) ∧ ∃ a0 a1 a2 a3 a4 a5 a6 a7 a8 a9 a10 a11 a12 a13 a14 a15 a16 a17 a18 a19 a20 a21 a22 a23 : U20, a' = frame83 b q true uni nm' L u34 u35 i (.slice A n C) a0 a1 a2 a3 a4 a5 a6 a7 a8 a9 a10 a11 a12 a13 a14 a15 a16 a17 a18 a19 a20 a21 a22 a23) (((s.size : Int) - x.pos).toNat + 1) ?_ ?_
    · exact ⟨L, none, 0, 0, [], ⟨⟨rfl, Int.le_refl _, hp1, HR.out, by omega, by simp, by omega⟩, ⟨Below.refl _ _⟩, ⟨OwnN.nil _ _⟩⟩, to_frame83⟩
    · intro gk a wr hI _ _ _ _
      obtain ⟨i, A, C, n, xs, ⟨HA0, HB, HO⟩, a0, a1, a2, a3, a4, a5, a6, a7, a8, a9, a10, a11, a12, a13, a14, a15, a16, a17, a18, a19, a20, a21, a22, a23, rfl⟩ := hI
      have HNX := Aside0.mk HA0.out.1
      have HA := Aside0.mk HA0.out.2
      clear HA0
      unfold frame83
      have hB := HB.out
      have hX := h.below hB
      have hat := hX.at_
      have C9 : wr.cell? ⟨b, 9, none⟩ = some (.int .i64 x.pos) := hX.l.c9
      have i0 := HA.out.1
      have i1 := HA.out.2.1
      have hi0 : 0 ≤ i := by omega
      have hsz := hB.size
      have hlen : xs.length + 4 ≤ 100000000 := by have := HA.out.2.2.2.2.2; have := HNX.out; omega
      have hqq := HA.out.2.2.1
      have HQ := Aside0.mk hqq
      clear hqq
      by_cases hq : x.pos + i < (s.size : Int)
      · have hd1 : decide (x.pos + i < (s.size : Int)) = true := decide_eq_true hq
        have hwL := iwrap (i + L) (by omega) (by omega)
        have hw1 := iwrap (i + 1) (by omega) (by omega)
        have hcut := hM.cut (x.pos + i) (by omega) (by omega)
        rw [show x.pos + i + L = x.pos + (i + L) by omega] at hcut
        cases hQ : isQ s c L (x.pos + i) with
        | true =>
          rw [hQ] at hcut
          have hend := isQ_in hM.c0 hM.one (by omega) hQ
          have hr : R = some (x.pos + i + L) := by rw [← HQ.out]; exact quoA_end hq hQ
          subst hr
          clear hQ
          have HE := Aside0.mk HA.out.2.2.2.2.1
          cases hnz : ((n : Int) == 0) with
          | true =>
            have hxs : xs = [] := List.eq_nil_of_length_eq_zero (by have := HNX.out; have := beq_iff_eq.1 hnz; omega)
            have HI := Aside0.mk (HE.out.1 hxs)
            clear hxs
            cases isId with
            | true =>
              have HL := Aside0.mk (HIDL.out rfl)
              have hn := HN.out
              have hp0' : 0 ≤ x.pos := hp0
              have hpq' : x.pos ≤ x.pos + i + L := by omega
              have hqs' : x.pos + i + L ≤ (s.size : Int) := by omega
              have hwi := iwrap (x.pos + i) (by omega) (by omega)
              have hwi2 := iwrap (x.pos + i + L) (by omega) (by omega)
              go_wp2_with (first
                | (go_at_call 75; (first | (with_reducible refine (peekOk_c b fb s x.pos _ _ hat hp0 (by omega) (by omega) (by omega)).mono ?_) | (with_reducible refine (peekOk_c b fb s x.pos _ _ (hat.drewN _) hp0 (by omega) (by omega) (by omega)).mono ?_)); rintro e w' ⟨rfl, ⟨n4, rfl⟩⟩)
                | (go_at_call 88; (first | (with_reducible refine (slice_c b fb s x.pos _ _ _ hat hp0 (by omega) (by omega) (by omega) (by omega) (by omega)).mono ?_) | (with_reducible refine (slice_c b fb s x.pos _ _ _ (hat.drewN _) hp0 (by omega) (by omega) (by omega) (by omega) (by omega)).mono ?_)); rintro e w' ⟨rfl, ⟨n6, rfl⟩⟩))
              refine wp_gen (w0 := wr) ?_
              intro wz hwz
              have hXz : Lx0 wz b fb s x := by obtain ⟨n, rfl⟩ := hwz; exact hX.drewN n
              have hUz : Ups b w wz := by obtain ⟨n, rfl⟩ := hwz; exact ((Ups.refl b w).below hB).drewN n
              have C9z := hXz.l.c9
              clear hwz
              go_still_tail 14, (by kernel_rfl)
              have hXd := hXz.drew
              go_wp2_with (first
                | (go_at_call 107; (with_reducible refine (panicAt_c b fb s x (x.pos) (x.pos + i + L) _ _ hXd hs hp0' hpq' hqs').mono ?_); rintro e w' ⟨⟨g, rfl⟩, hU2⟩))
              exact ⟨rfl, Quotes.bad (by have := HI.out; have := HL.out; omega) ⟨⟨g, rfl⟩, (hUz.drew.two fb).trans hU2⟩⟩
            | false =>
              have hn := HN.out
              have hq0 : 0 ≤ i + L := by omega
              have hq1 : i + L ≤ 1000000 := by omega
              go_wp2_with (first
                | (go_at_call 75; (first | (with_reducible refine (peekOk_c b fb s x.pos _ _ hat hp0 (by omega) (by omega) (by omega)).mono ?_) | (with_reducible refine (peekOk_c b fb s x.pos _ _ (hat.drewN _) hp0 (by omega) (by omega) (by omega)).mono ?_)); rintro e w' ⟨rfl, ⟨n4, rfl⟩⟩)
                | (go_at_call 88; (first | (with_reducible refine (slice_c b fb s x.pos _ _ _ hat hp0 (by omega) (by omega) (by omega) (by omega) (by omega)).mono ?_) | (with_reducible refine (slice_c b fb s x.pos _ _ _ (hat.drewN _) hp0 (by omega) (by omega) (by omega) (by omega) (by omega)).mono ?_)); rintro e w' ⟨rfl, ⟨n6, rfl⟩⟩)
                | (go_at_call 72; (with_reducible refine (skipN_c b fb s x.pos (i + L) _ (hat.drewN _) ((hX.l.drewN _).free 9) hp0 (by omega) (by omega) (by omega)).mono ?_); go_loud (rintro e w9 ⟨rfl, hw9⟩; have hX9 : Lx0 w9 b fb s { x with pos := x.pos + (i + L) } := (by rw [hw9]; exact (hX.drewN _).set9 _); have hU9 : Ups b w w9 := (by rw [hw9]; exact (((Ups.refl b w).below hB).drewN _).set 9 _); have hO9 : OwnN w9 w.heap.size (.slice A n C) xs := (by rw [hw9]; exact (HO.out.drewN _).set (by have := h.l.lt; exact this) _); obtain ⟨t, hcv⟩ := hO9.to_string; clear hw9)))
              (try simp only [Exit.inBlock, Exit.then]); refine bodyPost_ret (results_tmp2 rfl _ _ _) rfl ?_
              exact Quotes.ok (by rintro ⟨h1, _⟩; cases h1) hU9 (by rw [Int.add_assoc]; exact hX9.l)
          | false =>
            have HI : Aside0 (i ≠ L) := ⟨fun hh => by have h1 := HE.out.2 hh; have h2 := HNX.out; rw [h1] at h2; rw [h2] at hnz; cases hnz⟩
            have hq0 : 0 ≤ i + L := by omega
            have hq1 : i + L ≤ 1000000 := by omega
            go_wp2_with (first
              | (go_at_call 75; (first | (with_reducible refine (peekOk_c b fb s x.pos _ _ hat hp0 (by omega) (by omega) (by omega)).mono ?_) | (with_reducible refine (peekOk_c b fb s x.pos _ _ (hat.drewN _) hp0 (by omega) (by omega) (by omega)).mono ?_)); rintro e w' ⟨rfl, ⟨n4, rfl⟩⟩)
              | (go_at_call 88; (first | (with_reducible refine (slice_c b fb s x.pos _ _ _ hat hp0 (by omega) (by omega) (by omega) (by omega) (by omega)).mono ?_) | (with_reducible refine (slice_c b fb s x.pos _ _ _ (hat.drewN _) hp0 (by omega) (by omega) (by omega) (by omega) (by omega)).mono ?_)); rintro e w' ⟨rfl, ⟨n6, rfl⟩⟩)
              | (go_at_call 72; (with_reducible refine (skipN_c b fb s x.pos (i + L) _ (hat.drewN _) ((hX.l.drewN _).free 9) hp0 (by omega) (by omega) (by omega)).mono ?_); go_loud (rintro e w9 ⟨rfl, hw9⟩; have hX9 : Lx0 w9 b fb s { x with pos := x.pos + (i + L) } := (by rw [hw9]; exact (hX.drewN _).set9 _); have hU9 : Ups b w w9 := (by rw [hw9]; exact (((Ups.refl b w).below hB).drewN _).set 9 _); have hO9 : OwnN w9 w.heap.size (.slice A n C) xs := (by rw [hw9]; exact (HO.out.drewN _).set (by have := h.l.lt; exact this) _); obtain ⟨t, hcv⟩ := hO9.to_string; clear hw9)))
            (try simp only [Exit.inBlock, Exit.then]); refine bodyPost_ret (results_tmp2 rfl _ _ _) rfl ?_
            exact Quotes.ok (by rintro ⟨h1, h2⟩; have h3 := HIDL.out h1; have := HI.out; omega) hU9 (by rw [Int.add_assoc]; exact hX9.l)
        | false =>
          rw [hQ] at hcut
          have HF := Aside0.mk hQ
          clear hQ
          cases h92 : (bt s (x.pos + i) == 92) with
          | true =>
            have H92 := Aside0.mk (beq_iff_eq.1 h92)
            have hbr : x.pos + i + 9 < (s.size : Int) := by
              by_cases hh : x.pos + i + 9 < (s.size : Int)
              · exact hh
              · exact absurd H92.out (hT.brit (x.pos + i) (by omega) (by omega))
            have hd2 : decide (x.pos + (i + 1) < (s.size : Int)) = true := decide_eq_true (by omega)
            have hw2 := iwrap (i + 1 + 1) (by omega) (by omega)
            have hhe : esc s true (!uni) (x.pos + i) = some (x.pos + i + 2) := esc_raw (by omega)
            have HES := Aside0.mk hhe
            clear hhe
            go_wp2_with (first
              | (go_at_call 75; (first | (with_reducible refine (peekOk_c b fb s x.pos _ _ hat hp0 (by omega) (by omega) (by omega)).mono ?_) | (with_reducible refine (peekOk_c b fb s x.pos _ _ (hat.drewN _) hp0 (by omega) (by omega) (by omega)).mono ?_)); rintro e w' ⟨rfl, ⟨n4, rfl⟩⟩)
              | (go_at_call 88; (first | (with_reducible refine (slice_c b fb s x.pos _ _ _ hat hp0 (by omega) (by omega) (by omega) (by omega) (by omega)).mono ?_) | (with_reducible refine (slice_c b fb s x.pos _ _ _ (hat.drewN _) hp0 (by omega) (by omega) (by omega) (by omega) (by omega)).mono ?_)); rintro e w' ⟨rfl, ⟨n6, rfl⟩⟩)
              | (go_at_call 77; (first | (with_reducible refine (peek_c b fb s x.pos _ _ hat hp0 (by omega) (by omega) (by omega) (by omega)).mono ?_) | (with_reducible refine (peek_c b fb s x.pos _ _ (hat.drewN _) hp0 (by omega) (by omega) (by omega) (by omega)).mono ?_)); rintro e w' ⟨rfl, ⟨n5, rfl⟩⟩)
              | (at_builtin; refine append_two (w0 := w) w.heap.size rfl (.tmp 115) (.tmp 117) rfl _ xs _ _ rfl rfl (HO.out.drewN _) (below_drewN hB _) hsz hlen ?_; intro v1 w1 HO1 HB1; obtain ⟨A1, C1, rfl⟩ := HO1.shape' HNX.out (m := 2) rfl))
            refine Handed.intro (((s.size : Int) - (x.pos + (i + 1 + 1))).toNat + 1) (by have := HA.out.2.2.2.1; omega) ?_
            go_step
            exact ⟨i + 1 + 1, A1, C1, _, xs ++ [_, _], ⟨⟨by have := HNX.out; simp only [List.length_append, List.length_cons, List.length_nil]; omega, by omega, by omega, by rw [← HQ.out]; exact by rw [quoA_esc (by omega) hq HF.out H92.out HES.out]; congr 1; omega, by omega, ⟨fun hh => by simp at hh, fun hh => by exfalso; omega⟩, by have := HA.out.2.2.2.2.2; omega⟩, ⟨HB1⟩, ⟨HO1⟩⟩, to_frame83⟩
          | false =>
            have H92 := Aside0.mk (ne_of_beq_false h92)
            cases h10 : (bt s (x.pos + i) == 10 && L != 3) with
            | true =>
              have h10a : (bt s (x.pos + i) == 10) = true := by simp only [Bool.and_eq_true] at h10; exact h10.1
              have h10b : (L != 3) = true := by simp only [Bool.and_eq_true] at h10; exact h10.2
              have hL1 : L = 1 := by
                have h3 : L ≠ 3 := by simpa using h10b
                rcases hL0 with h | h
                · exact h
                · exact absurd h h3
              have hr : R = none := by rw [← HQ.out]; exact quoA_feed hq HF.out (beq_iff_eq.1 h10a) hL1
              clear hL1
              subst hr
              clear h10
              have hwi := iwrap (x.pos + i) (by omega) (by omega)
              have hp0' : 0 ≤ x.pos := hp0
              have hpq' : x.pos ≤ x.pos + i := by omega
              have hqs' : x.pos + i ≤ (s.size : Int) := i1
              go_wp2_with (first
                | (go_at_call 75; (first | (with_reducible refine (peekOk_c b fb s x.pos _ _ hat hp0 (by omega) (by omega) (by omega)).mono ?_) | (with_reducible refine (peekOk_c b fb s x.pos _ _ (hat.drewN _) hp0 (by omega) (by omega) (by omega)).mono ?_)); rintro e w' ⟨rfl, ⟨n4, rfl⟩⟩)
                | (go_at_call 88; (first | (with_reducible refine (slice_c b fb s x.pos _ _ _ hat hp0 (by omega) (by omega) (by omega) (by omega) (by omega)).mono ?_) | (with_reducible refine (slice_c b fb s x.pos _ _ _ (hat.drewN _) hp0 (by omega) (by omega) (by omega) (by omega) (by omega)).mono ?_)); rintro e w' ⟨rfl, ⟨n6, rfl⟩⟩)
                | (go_at_call 77; (first | (with_reducible refine (peek_c b fb s x.pos _ _ hat hp0 (by omega) (by omega) (by omega) (by omega)).mono ?_) | (with_reducible refine (peek_c b fb s x.pos _ _ (hat.drewN _) hp0 (by omega) (by omega) (by omega) (by omega)).mono ?_)); rintro e w' ⟨rfl, ⟨n5, rfl⟩⟩))
              refine wp_gen (w0 := wr) ?_
              intro wz hwz
              have hXz : Lx0 wz b fb s x := by obtain ⟨n, rfl⟩ := hwz; exact hX.drewN n
              have hUz : Ups b w wz := by obtain ⟨n, rfl⟩ := hwz; exact ((Ups.refl b w).below hB).drewN n
              have C9z := hXz.l.c9
              clear hwz
              go_still_tail 11, (by kernel_rfl)
              have hXd := hXz.drew
              go_wp2_with (first
                | (go_at_call 107; (with_reducible refine (panicAt_c b fb s x (x.pos) (x.pos + i) _ _ hXd hs hp0' hpq' hqs').mono ?_); rintro e w' ⟨⟨g, rfl⟩, hU2⟩))
              exact ⟨rfl, ⟨g, rfl⟩, (hUz.drew.two fb).trans hU2⟩
            | false =>
              have h10c : bt s (x.pos + i) ≠ 10 ∨ L ≠ 1 := by
                by_cases hh : bt s (x.pos + i) = 10
                · refine .inr fun h1 => ?_
                  rw [hh, h1] at h10
                  cases h10
                · exact .inl hh
              have H10 := Aside0.mk h10c
              have h10d : (bt s (x.pos + i) == 10) = false ∨ (bt s (x.pos + i) == 10) = true ∧ (L != 3) = false := by
                cases hh : (bt s (x.pos + i) == 10) with
                | false => exact .inl rfl
                | true => rw [hh, Bool.true_and] at h10; exact .inr ⟨rfl, h10⟩
              clear h10 h10c
              rcases h10d with g10 | ⟨g10, gL⟩
              all_goals
                go_wp2_with (first
                  | (go_at_call 75; (first | (with_reducible refine (peekOk_c b fb s x.pos _ _ hat hp0 (by omega) (by omega) (by omega)).mono ?_) | (with_reducible refine (peekOk_c b fb s x.pos _ _ (hat.drewN _) hp0 (by omega) (by omega) (by omega)).mono ?_)); rintro e w' ⟨rfl, ⟨n4, rfl⟩⟩)
                  | (go_at_call 88; (first | (with_reducible refine (slice_c b fb s x.pos _ _ _ hat hp0 (by omega) (by omega) (by omega) (by omega) (by omega)).mono ?_) | (with_reducible refine (slice_c b fb s x.pos _ _ _ (hat.drewN _) hp0 (by omega) (by omega) (by omega) (by omega) (by omega)).mono ?_)); rintro e w' ⟨rfl, ⟨n6, rfl⟩⟩)
                  | (go_at_call 77; (first | (with_reducible refine (peek_c b fb s x.pos _ _ hat hp0 (by omega) (by omega) (by omega) (by omega)).mono ?_) | (with_reducible refine (peek_c b fb s x.pos _ _ (hat.drewN _) hp0 (by omega) (by omega) (by omega) (by omega)).mono ?_)); rintro e w' ⟨rfl, ⟨n5, rfl⟩⟩)
                  | (at_builtin; refine append_one (w0 := w) w.heap.size rfl (.tmp 489) (.tmp 491) rfl _ xs _ rfl rfl (HO.out.drewN _) (below_drewN hB _) hsz hlen ?_; intro v1 w1 HO1 HB1; obtain ⟨A1, C1, rfl⟩ := HO1.shape' HNX.out (m := 1) rfl))
                refine Handed.intro (((s.size : Int) - (x.pos + (i + 1))).toNat + 1) (by have := HA.out.2.2.2.1; omega) ?_
                go_step
                exact ⟨i + 1, A1, C1, _, xs ++ [_], ⟨⟨by have := HNX.out; simp only [List.length_append, List.length_cons, List.length_nil]; omega, by omega, by omega, by rw [← HQ.out]; exact by rw [quoA_next hq HF.out H92.out H10.out]; congr 1; omega, by omega, ⟨fun hh => by simp at hh, fun hh => by exfalso; omega⟩, by have := HA.out.2.2.2.2.2; omega⟩, ⟨HB1⟩, ⟨HO1⟩⟩, to_frame83⟩
      · have hd1 : decide (x.pos + i < (s.size : Int)) = false := decide_eq_false hq
        have hr : R = none := by rw [← HQ.out]; exact quoA_eof (by omega)
        subst hr
        have hwi := iwrap (x.pos + i) (by omega) (by omega)
        have hp0' : 0 ≤ x.pos := hp0
        have hpq' : x.pos ≤ x.pos + i := by omega
        have hqs' : x.pos + i ≤ (s.size : Int) := i1
        go_wp2_with (first
          | (go_at_call 75; (first | (with_reducible refine (peekOk_c b fb s x.pos _ _ hat hp0 (by omega) (by omega) (by omega)).mono ?_) | (with_reducible refine (peekOk_c b fb s x.pos _ _ (hat.drewN _) hp0 (by omega) (by omega) (by omega)).mono ?_)); rintro e w' ⟨rfl, ⟨n4, rfl⟩⟩))
        refine wp_gen (w0 := wr) ?_
        intro wz hwz
        have hXz : Lx0 wz b fb s x := by obtain ⟨n, rfl⟩ := hwz; exact hX.drewN n
        have hUz : Ups b w wz := by obtain ⟨n, rfl⟩ := hwz; exact ((Ups.refl b w).below hB).drewN n
        have C9z := hXz.l.c9
        clear hwz
        go_still_tail 11, (by kernel_rfl)
        have hXd := hXz.drew
        go_wp2_with (first
          | (go_at_call 113; (with_reducible refine (errAt_c b fb s x x.pos (x.pos + i) _ _ hXd hs hp0' hpq' hqs').mono ?_); rintro e w' ⟨⟨g, rfl⟩, hU2⟩))
        exact ⟨rfl, ⟨g, rfl⟩, (hUz.drew.two fb).trans hU2⟩
end Go.Proofs.YtjepdlmcombmcaaGreatDoor.Lx
