/- Words: what consumeToken's last part leaves, from any frame. Conditions: the lexer's state; a letter stands at its place. -/
import Derived.Test.YtjepdlmcombmcaaGreatDoorNy
import Derived.Test.YtjepdlmcombmcaaGreatDoorGa
namespace Go.Proofs.YtjepdlmcombmcaaGreatDoor.Lx
open Go.RowKit Go.Proofs.YtjepdlmcombmcaaGreatDoorW.PrintWords

/-- The number of the first region of a code. -/
def headReg : Code → Option Nat
  | .seq a _ => headReg a
  | .region n _ _ => some n
  | _ => none
/-- The part of a code that begins at region n and goes to the end. -/
def fromReg (n : Nat) : Code → Option Code
  | .seq a b => match headReg a == some n, fromReg n a, fromReg n b with
    | true, _, _ => some (.seq a b)
    | false, some c, _ => some c
    | false, none, r => r
  | .region m o d => if m = n then some (.region m o d) else none
  | _ => none
def tailOf (n : Nat) (f : Func) : Code := match f.body with
  | some c => (match fromReg n c with
    | some d => d
    | none => .skip)
  | none => .skip
set_option maxRecDepth 100000 in
def frame54 (b : Nat) (a0 a1 a2 a3 a4 a5 a6 a7 a8 a9 a10 a11 a12 a13 a14 a15 a16 a17 a18 a19 a20 a21 a22 a23 : U20) : Act := ⟨List.toArray (
  (.pointer (some ⟨b, 0, none⟩)) :: (.bool false) :: (a0.f0) :: (a0.f1) :: (a0.f2) :: (a0.f3) :: (a0.f4) :: (a0.f5) ::
  (a0.f6) :: (a0.f7) :: (a0.f8) :: (a0.f9) :: (a0.f10) :: (a0.f11) :: (a0.f12) :: (a0.f13) ::
  (a0.f14) :: (a0.f15) :: (a0.f16) :: (a0.f17) :: (a0.f18) :: (a0.f19) :: (a1.f0) :: (a1.f1) ::
  (a1.f2) :: (a1.f3) :: (a1.f4) :: (a1.f5) :: (a1.f6) :: (a1.f7) :: (a1.f8) :: (a1.f9) ::
  (a1.f10) :: (a1.f11) :: (a1.f12) :: (a1.f13) :: (a1.f14) :: (a1.f15) :: (a1.f16) :: (a1.f17) ::
  (a1.f18) :: (a1.f19) :: (a2.f0) :: (a2.f1) :: (a2.f2) :: (a2.f3) :: (a2.f4) :: (a2.f5) ::
  (a2.f6) :: (a2.f7) :: (a2.f8) :: (a2.f9) :: (a2.f10) :: (a2.f11) :: (a2.f12) :: (a2.f13) ::
  (a2.f14) :: (a2.f15) :: (a2.f16) :: (a2.f17) :: (a2.f18) :: (a2.f19) :: (a3.f0) :: (a3.f1) ::
  (a3.f2) :: (a3.f3) :: (a3.f4) :: (a3.f5) :: (a3.f6) :: (a3.f7) :: (a3.f8) :: (a3.f9) ::
  (a3.f10) :: (a3.f11) :: (a3.f12) :: (a3.f13) :: (a3.f14) :: (a3.f15) :: (a3.f16) :: (a3.f17) ::
  (a3.f18) :: (a3.f19) :: (a4.f0) :: (a4.f1) :: (a4.f2) :: (a4.f3) :: (a4.f4) :: (a4.f5) ::
  (a4.f6) :: (a4.f7) :: (a4.f8) :: (a4.f9) :: (a4.f10) :: (a4.f11) :: (a4.f12) :: (a4.f13) ::
  (a4.f14) :: (a4.f15) :: (a4.f16) :: (a4.f17) :: (a4.f18) :: (a4.f19) :: (a5.f0) :: (a5.f1) ::
  (a5.f2) :: (a5.f3) :: (a5.f4) :: (a5.f5) :: (a5.f6) :: (a5.f7) :: (a5.f8) :: (a5.f9) ::
  (a5.f10) :: (a5.f11) :: (a5.f12) :: (a5.f13) :: (a5.f14) :: (a5.f15) :: (a5.f16) :: (a5.f17) ::
  (a5.f18) :: (a5.f19) :: (a6.f0) :: (a6.f1) :: (a6.f2) :: (a6.f3) :: (a6.f4) :: (a6.f5) ::
  (a6.f6) :: (a6.f7) :: (a6.f8) :: (a6.f9) :: (a6.f10) :: (a6.f11) :: (a6.f12) :: (a6.f13) ::
  (a6.f14) :: (a6.f15) :: (a6.f16) :: (a6.f17) :: (a6.f18) :: (a6.f19) :: (a7.f0) :: (a7.f1) ::
  (a7.f2) :: (a7.f3) :: (a7.f4) :: (a7.f5) :: (a7.f6) :: (a7.f7) :: (a7.f8) :: (a7.f9) ::
  (a7.f10) :: (a7.f11) :: (a7.f12) :: (a7.f13) :: (a7.f14) :: (a7.f15) :: (a7.f16) :: (a7.f17) ::
  (a7.f18) :: (a7.f19) :: (a8.f0) :: (a8.f1) :: (a8.f2) :: (a8.f3) :: (a8.f4) :: (a8.f5) ::
  (a8.f6) :: (a8.f7) :: (a8.f8) :: (a8.f9) :: (a8.f10) :: (a8.f11) :: (a8.f12) :: (a8.f13) ::
  (a8.f14) :: (a8.f15) :: (a8.f16) :: (a8.f17) :: (a8.f18) :: (a8.f19) :: (a9.f0) :: (a9.f1) ::
  (a9.f2) :: (a9.f3) :: (a9.f4) :: (a9.f5) :: (a9.f6) :: (a9.f7) :: (a9.f8) :: (a9.f9) ::
  (a9.f10) :: (a9.f11) :: (a9.f12) :: (a9.f13) :: (a9.f14) :: (a9.f15) :: (a9.f16) :: (a9.f17) ::
  (a9.f18) :: (a9.f19) :: (a10.f0) :: (a10.f1) :: (a10.f2) :: (a10.f3) :: (a10.f4) :: (a10.f5) ::
  (a10.f6) :: (a10.f7) :: (a10.f8) :: (a10.f9) :: (a10.f10) :: (a10.f11) :: (a10.f12) :: (a10.f13) ::
  (a10.f14) :: (a10.f15) :: (a10.f16) :: (a10.f17) :: (a10.f18) :: (a10.f19) :: (a11.f0) :: (a11.f1) ::
  (a11.f2) :: (a11.f3) :: (a11.f4) :: (a11.f5) :: (a11.f6) :: (a11.f7) :: (a11.f8) :: (a11.f9) ::
  (a11.f10) :: (a11.f11) :: (a11.f12) :: (a11.f13) :: (a11.f14) :: (a11.f15) :: (a11.f16) :: (a11.f17) ::
  (a11.f18) :: (a11.f19) :: (a12.f0) :: (a12.f1) :: (a12.f2) :: (a12.f3) :: (a12.f4) :: (a12.f5) ::
  (a12.f6) :: (a12.f7) :: (a12.f8) :: (a12.f9) :: (a12.f10) :: (a12.f11) :: (a12.f12) :: (a12.f13) ::
  (a12.f14) :: (a12.f15) :: (a12.f16) :: (a12.f17) :: (a12.f18) :: (a12.f19) :: (a13.f0) :: (a13.f1) ::
  (a13.f2) :: (a13.f3) :: (a13.f4) :: (a13.f5) :: (a13.f6) :: (a13.f7) :: (a13.f8) :: (a13.f9) ::
  (a13.f10) :: (a13.f11) :: (a13.f12) :: (a13.f13) :: (a13.f14) :: (a13.f15) :: (a13.f16) :: (a13.f17) ::
  (a13.f18) :: (a13.f19) :: (a14.f0) :: (a14.f1) :: (a14.f2) :: (a14.f3) :: (a14.f4) :: (a14.f5) ::
  (a14.f6) :: (a14.f7) :: (a14.f8) :: (a14.f9) :: (a14.f10) :: (a14.f11) :: (a14.f12) :: (a14.f13) ::
  (a14.f14) :: (a14.f15) :: (a14.f16) :: (a14.f17) :: (a14.f18) :: (a14.f19) :: (a15.f0) :: (a15.f1) ::
  (a15.f2) :: (a15.f3) :: (a15.f4) :: (a15.f5) :: (a15.f6) :: (a15.f7) :: (a15.f8) :: (a15.f9) ::
  (a15.f10) :: (a15.f11) :: (a15.f12) :: (a15.f13) :: (a15.f14) :: (a15.f15) :: (a15.f16) :: (a15.f17) ::
  (a15.f18) :: (a15.f19) :: (a16.f0) :: (a16.f1) :: (a16.f2) :: (a16.f3) :: (a16.f4) :: (a16.f5) ::
  (a16.f6) :: (a16.f7) :: (a16.f8) :: (a16.f9) :: (a16.f10) :: (a16.f11) :: (a16.f12) :: (a16.f13) ::
  (a16.f14) :: (a16.f15) :: (a16.f16) :: (a16.f17) :: (a16.f18) :: (a16.f19) :: (a17.f0) :: (a17.f1) ::
  (a17.f2) :: (a17.f3) :: (a17.f4) :: (a17.f5) :: (a17.f6) :: (a17.f7) :: (a17.f8) :: (a17.f9) ::
  (a17.f10) :: (a17.f11) :: (a17.f12) :: (a17.f13) :: (a17.f14) :: (a17.f15) :: (a17.f16) :: (a17.f17) ::
  (a17.f18) :: (a17.f19) :: (a18.f0) :: (a18.f1) :: (a18.f2) :: (a18.f3) :: (a18.f4) :: (a18.f5) ::
  (a18.f6) :: (a18.f7) :: (a18.f8) :: (a18.f9) :: (a18.f10) :: (a18.f11) :: (a18.f12) :: (a18.f13) ::
  (a18.f14) :: (a18.f15) :: (a18.f16) :: (a18.f17) :: (a18.f18) :: (a18.f19) :: (a19.f0) :: (a19.f1) ::
  (a19.f2) :: (a19.f3) :: (a19.f4) :: (a19.f5) :: (a19.f6) :: (a19.f7) :: (a19.f8) :: (a19.f9) ::
  (a19.f10) :: (a19.f11) :: (a19.f12) :: (a19.f13) :: (a19.f14) :: (a19.f15) :: (a19.f16) :: (a19.f17) ::
  (a19.f18) :: (a19.f19) :: (a20.f0) :: (a20.f1) :: (a20.f2) :: (a20.f3) :: (a20.f4) :: (a20.f5) ::
  (a20.f6) :: (a20.f7) :: (a20.f8) :: (a20.f9) :: (a20.f10) :: (a20.f11) :: (a20.f12) :: (a20.f13) ::
  (a20.f14) :: (a20.f15) :: (a20.f16) :: (a20.f17) :: (a20.f18) :: (a20.f19) :: (a21.f0) :: (a21.f1) ::
  (a21.f2) :: (a21.f3) :: (a21.f4) :: (a21.f5) :: (a21.f6) :: (a21.f7) :: (a21.f8) :: (a21.f9) ::
  (a21.f10) :: (a21.f11) :: (a21.f12) :: (a21.f13) :: (a21.f14) :: (a21.f15) :: (a21.f16) :: (a21.f17) ::
  (a21.f18) :: (a21.f19) :: (a22.f0) :: (a22.f1) :: (a22.f2) :: (a22.f3) :: (a22.f4) :: (a22.f5) ::
  (a22.f6) :: (a22.f7) :: (a22.f8) :: (a22.f9) :: (a22.f10) :: (a22.f11) :: (a22.f12) :: (a22.f13) ::
  (a22.f14) :: (a22.f15) :: (a22.f16) :: (a22.f17) :: (a22.f18) :: (a22.f19) :: (a23.f0) :: (a23.f1) ::
 []), []⟩
set_option maxRecDepth 100000 in
theorem to_frame54 {b : Nat} {e2 e3 e4 e5 e6 e7 e8 e9 e10 e11 e12 e13 e14 e15 e16 e17 e18 e19 e20 e21 e22 e23 e24 e25 e26 e27 e28 e29 e30 e31 e32 e33 e34 e35 e36 e37 e38 e39 e40 e41 e42 e43 e44 e45 e46 e47 e48 e49 e50 e51 e52 e53 e54 e55 e56 e57 e58 e59 e60 e61 e62 e63 e64 e65 e66 e67 e68 e69 e70 e71 e72 e73 e74 e75 e76 e77 e78 e79 e80 e81 e82 e83 e84 e85 e86 e87 e88 e89 e90 e91 e92 e93 e94 e95 e96 e97 e98 e99 e100 e101 e102 e103 e104 e105 e106 e107 e108 e109 e110 e111 e112 e113 e114 e115 e116 e117 e118 e119 e120 e121 e122 e123 e124 e125 e126 e127 e128 e129 e130 e131 e132 e133 e134 e135 e136 e137 e138 e139 e140 e141 e142 e143 e144 e145 e146 e147 e148 e149 e150 e151 e152 e153 e154 e155 e156 e157 e158 e159 e160 e161 e162 e163 e164 e165 e166 e167 e168 e169 e170 e171 e172 e173 e174 e175 e176 e177 e178 e179 e180 e181 e182 e183 e184 e185 e186 e187 e188 e189 e190 e191 e192 e193 e194 e195 e196 e197 e198 e199 e200 e201 e202 e203 e204 e205 e206 e207 e208 e209 e210 e211 e212 e213 e214 e215 e216 e217 e218 e219 e220 e221 e222 e223 e224 e225 e226 e227 e228 e229 e230 e231 e232 e233 e234 e235 e236 e237 e238 e239 e240 e241 e242 e243 e244 e245 e246 e247 e248 e249 e250 e251 e252 e253 e254 e255 e256 e257 e258 e259 e260 e261 e262 e263 e264 e265 e266 e267 e268 e269 e270 e271 e272 e273 e274 e275 e276 e277 e278 e279 e280 e281 e282 e283 e284 e285 e286 e287 e288 e289 e290 e291 e292 e293 e294 e295 e296 e297 e298 e299 e300 e301 e302 e303 e304 e305 e306 e307 e308 e309 e310 e311 e312 e313 e314 e315 e316 e317 e318 e319 e320 e321 e322 e323 e324 e325 e326 e327 e328 e329 e330 e331 e332 e333 e334 e335 e336 e337 e338 e339 e340 e341 e342 e343 e344 e345 e346 e347 e348 e349 e350 e351 e352 e353 e354 e355 e356 e357 e358 e359 e360 e361 e362 e363 e364 e365 e366 e367 e368 e369 e370 e371 e372 e373 e374 e375 e376 e377 e378 e379 e380 e381 e382 e383 e384 e385 e386 e387 e388 e389 e390 e391 e392 e393 e394 e395 e396 e397 e398 e399 e400 e401 e402 e403 e404 e405 e406 e407 e408 e409 e410 e411 e412 e413 e414 e415 e416 e417 e418 e419 e420 e421 e422 e423 e424 e425 e426 e427 e428 e429 e430 e431 e432 e433 e434 e435 e436 e437 e438 e439 e440 e441 e442 e443 e444 e445 e446 e447 e448 e449 e450 e451 e452 e453 e454 e455 e456 e457 e458 e459 e460 e461 e462 e463 : Value} : ∃ a0 a1 a2 a3 a4 a5 a6 a7 a8 a9 a10 a11 a12 a13 a14 a15 a16 a17 a18 a19 a20 a21 a22 a23 : U20, (⟨List.toArray (
  (.pointer (some ⟨b, 0, none⟩)) :: (.bool false) :: (e2) :: (e3) :: (e4) :: (e5) :: (e6) :: (e7) ::
  (e8) :: (e9) :: (e10) :: (e11) :: (e12) :: (e13) :: (e14) :: (e15) ::
  (e16) :: (e17) :: (e18) :: (e19) :: (e20) :: (e21) :: (e22) :: (e23) ::
  (e24) :: (e25) :: (e26) :: (e27) :: (e28) :: (e29) :: (e30) :: (e31) ::
  (e32) :: (e33) :: (e34) :: (e35) :: (e36) :: (e37) :: (e38) :: (e39) ::
  (e40) :: (e41) :: (e42) :: (e43) :: (e44) :: (e45) :: (e46) :: (e47) ::
  (e48) :: (e49) :: (e50) :: (e51) :: (e52) :: (e53) :: (e54) :: (e55) ::
  (e56) :: (e57) :: (e58) :: (e59) :: (e60) :: (e61) :: (e62) :: (e63) ::
  (e64) :: (e65) :: (e66) :: (e67) :: (e68) :: (e69) :: (e70) :: (e71) ::
  (e72) :: (e73) :: (e74) :: (e75) :: (e76) :: (e77) :: (e78) :: (e79) ::
  (e80) :: (e81) :: (e82) :: (e83) :: (e84) :: (e85) :: (e86) :: (e87) ::
  (e88) :: (e89) :: (e90) :: (e91) :: (e92) :: (e93) :: (e94) :: (e95) ::
  (e96) :: (e97) :: (e98) :: (e99) :: (e100) :: (e101) :: (e102) :: (e103) ::
  (e104) :: (e105) :: (e106) :: (e107) :: (e108) :: (e109) :: (e110) :: (e111) ::
  (e112) :: (e113) :: (e114) :: (e115) :: (e116) :: (e117) :: (e118) :: (e119) ::
  (e120) :: (e121) :: (e122) :: (e123) :: (e124) :: (e125) :: (e126) :: (e127) ::
  (e128) :: (e129) :: (e130) :: (e131) :: (e132) :: (e133) :: (e134) :: (e135) ::
  (e136) :: (e137) :: (e138) :: (e139) :: (e140) :: (e141) :: (e142) :: (e143) ::
  (e144) :: (e145) :: (e146) :: (e147) :: (e148) :: (e149) :: (e150) :: (e151) ::
  (e152) :: (e153) :: (e154) :: (e155) :: (e156) :: (e157) :: (e158) :: (e159) ::
  (e160) :: (e161) :: (e162) :: (e163) :: (e164) :: (e165) :: (e166) :: (e167) ::
  (e168) :: (e169) :: (e170) :: (e171) :: (e172) :: (e173) :: (e174) :: (e175) ::
  (e176) :: (e177) :: (e178) :: (e179) :: (e180) :: (e181) :: (e182) :: (e183) ::
  (e184) :: (e185) :: (e186) :: (e187) :: (e188) :: (e189) :: (e190) :: (e191) ::
  (e192) :: (e193) :: (e194) :: (e195) :: (e196) :: (e197) :: (e198) :: (e199) ::
  (e200) :: (e201) :: (e202) :: (e203) :: (e204) :: (e205) :: (e206) :: (e207) ::
  (e208) :: (e209) :: (e210) :: (e211) :: (e212) :: (e213) :: (e214) :: (e215) ::
  (e216) :: (e217) :: (e218) :: (e219) :: (e220) :: (e221) :: (e222) :: (e223) ::
  (e224) :: (e225) :: (e226) :: (e227) :: (e228) :: (e229) :: (e230) :: (e231) ::
  (e232) :: (e233) :: (e234) :: (e235) :: (e236) :: (e237) :: (e238) :: (e239) ::
  (e240) :: (e241) :: (e242) :: (e243) :: (e244) :: (e245) :: (e246) :: (e247) ::
  (e248) :: (e249) :: (e250) :: (e251) :: (e252) :: (e253) :: (e254) :: (e255) ::
  (e256) :: (e257) :: (e258) :: (e259) :: (e260) :: (e261) :: (e262) :: (e263) ::
  (e264) :: (e265) :: (e266) :: (e267) :: (e268) :: (e269) :: (e270) :: (e271) ::
  (e272) :: (e273) :: (e274) :: (e275) :: (e276) :: (e277) :: (e278) :: (e279) ::
  (e280) :: (e281) :: (e282) :: (e283) :: (e284) :: (e285) :: (e286) :: (e287) ::
  (e288) :: (e289) :: (e290) :: (e291) :: (e292) :: (e293) :: (e294) :: (e295) ::
  (e296) :: (e297) :: (e298) :: (e299) :: (e300) :: (e301) :: (e302) :: (e303) ::
  (e304) :: (e305) :: (e306) :: (e307) :: (e308) :: (e309) :: (e310) :: (e311) ::
  (e312) :: (e313) :: (e314) :: (e315) :: (e316) :: (e317) :: (e318) :: (e319) ::
  (e320) :: (e321) :: (e322) :: (e323) :: (e324) :: (e325) :: (e326) :: (e327) ::
  (e328) :: (e329) :: (e330) :: (e331) :: (e332) :: (e333) :: (e334) :: (e335) ::
  (e336) :: (e337) :: (e338) :: (e339) :: (e340) :: (e341) :: (e342) :: (e343) ::
  (e344) :: (e345) :: (e346) :: (e347) :: (e348) :: (e349) :: (e350) :: (e351) ::
  (e352) :: (e353) :: (e354) :: (e355) :: (e356) :: (e357) :: (e358) :: (e359) ::
  (e360) :: (e361) :: (e362) :: (e363) :: (e364) :: (e365) :: (e366) :: (e367) ::
  (e368) :: (e369) :: (e370) :: (e371) :: (e372) :: (e373) :: (e374) :: (e375) ::
  (e376) :: (e377) :: (e378) :: (e379) :: (e380) :: (e381) :: (e382) :: (e383) ::
  (e384) :: (e385) :: (e386) :: (e387) :: (e388) :: (e389) :: (e390) :: (e391) ::
  (e392) :: (e393) :: (e394) :: (e395) :: (e396) :: (e397) :: (e398) :: (e399) ::
  (e400) :: (e401) :: (e402) :: (e403) :: (e404) :: (e405) :: (e406) :: (e407) ::
  (e408) :: (e409) :: (e410) :: (e411) :: (e412) :: (e413) :: (e414) :: (e415) ::
  (e416) :: (e417) :: (e418) :: (e419) :: (e420) :: (e421) :: (e422) :: (e423) ::
  (e424) :: (e425) :: (e426) :: (e427) :: (e428) :: (e429) :: (e430) :: (e431) ::
  (e432) :: (e433) :: (e434) :: (e435) :: (e436) :: (e437) :: (e438) :: (e439) ::
  (e440) :: (e441) :: (e442) :: (e443) :: (e444) :: (e445) :: (e446) :: (e447) ::
  (e448) :: (e449) :: (e450) :: (e451) :: (e452) :: (e453) :: (e454) :: (e455) ::
  (e456) :: (e457) :: (e458) :: (e459) :: (e460) :: (e461) :: (e462) :: (e463) ::
 []), []⟩ : Act) = frame54 b a0 a1 a2 a3 a4 a5 a6 a7 a8 a9 a10 a11 a12 a13 a14 a15 a16 a17 a18 a19 a20 a21 a22 a23 := ⟨⟨e2, e3, e4, e5, e6, e7, e8, e9, e10, e11, e12, e13, e14, e15, e16, e17, e18, e19, e20, e21⟩, ⟨e22, e23, e24, e25, e26, e27, e28, e29, e30, e31, e32, e33, e34, e35, e36, e37, e38, e39, e40, e41⟩, ⟨e42, e43, e44, e45, e46, e47, e48, e49, e50, e51, e52, e53, e54, e55, e56, e57, e58, e59, e60, e61⟩, ⟨e62, e63, e64, e65, e66, e67, e68, e69, e70, e71, e72, e73, e74, e75, e76, e77, e78, e79, e80, e81⟩, ⟨e82, e83, e84, e85, e86, e87, e88, e89, e90, e91, e92, e93, e94, e95, e96, e97, e98, e99, e100, e101⟩, ⟨e102, e103, e104, e105, e106, e107, e108, e109, e110, e111, e112, e113, e114, e115, e116, e117, e118, e119, e120, e121⟩, ⟨e122, e123, e124, e125, e126, e127, e128, e129, e130, e131, e132, e133, e134, e135, e136, e137, e138, e139, e140, e141⟩, ⟨e142, e143, e144, e145, e146, e147, e148, e149, e150, e151, e152, e153, e154, e155, e156, e157, e158, e159, e160, e161⟩, ⟨e162, e163, e164, e165, e166, e167, e168, e169, e170, e171, e172, e173, e174, e175, e176, e177, e178, e179, e180, e181⟩, ⟨e182, e183, e184, e185, e186, e187, e188, e189, e190, e191, e192, e193, e194, e195, e196, e197, e198, e199, e200, e201⟩, ⟨e202, e203, e204, e205, e206, e207, e208, e209, e210, e211, e212, e213, e214, e215, e216, e217, e218, e219, e220, e221⟩, ⟨e222, e223, e224, e225, e226, e227, e228, e229, e230, e231, e232, e233, e234, e235, e236, e237, e238, e239, e240, e241⟩, ⟨e242, e243, e244, e245, e246, e247, e248, e249, e250, e251, e252, e253, e254, e255, e256, e257, e258, e259, e260, e261⟩, ⟨e262, e263, e264, e265, e266, e267, e268, e269, e270, e271, e272, e273, e274, e275, e276, e277, e278, e279, e280, e281⟩, ⟨e282, e283, e284, e285, e286, e287, e288, e289, e290, e291, e292, e293, e294, e295, e296, e297, e298, e299, e300, e301⟩, ⟨e302, e303, e304, e305, e306, e307, e308, e309, e310, e311, e312, e313, e314, e315, e316, e317, e318, e319, e320, e321⟩, ⟨e322, e323, e324, e325, e326, e327, e328, e329, e330, e331, e332, e333, e334, e335, e336, e337, e338, e339, e340, e341⟩, ⟨e342, e343, e344, e345, e346, e347, e348, e349, e350, e351, e352, e353, e354, e355, e356, e357, e358, e359, e360, e361⟩, ⟨e362, e363, e364, e365, e366, e367, e368, e369, e370, e371, e372, e373, e374, e375, e376, e377, e378, e379, e380, e381⟩, ⟨e382, e383, e384, e385, e386, e387, e388, e389, e390, e391, e392, e393, e394, e395, e396, e397, e398, e399, e400, e401⟩, ⟨e402, e403, e404, e405, e406, e407, e408, e409, e410, e411, e412, e413, e414, e415, e416, e417, e418, e419, e420, e421⟩, ⟨e422, e423, e424, e425, e426, e427, e428, e429, e430, e431, e432, e433, e434, e435, e436, e437, e438, e439, e440, e441⟩, ⟨e442, e443, e444, e445, e446, e447, e448, e449, e450, e451, e452, e453, e454, e455, e456, e457, e458, e459, e460, e461⟩, ⟨e462, e463, undef, undef, undef, undef, undef, undef, undef, undef, undef, undef, undef, undef, undef, undef, undef, undef, undef, undef⟩, rfl⟩

set_option maxRecDepth 100000 in
set_option maxHeartbeats 4000000 in
theorem word_tail (w wr : World) (b fb : Nat) (x : St) (s : ByteArray) (h : Lx0 wr b fb s x) (hU : Ups b w wr) (hs : (s.size : Int) ≤ 5000) (hp0 : 0 ≤ x.pos) (hp : x.pos < (s.size : Int)) (hl : isLetter (bt s x.pos) = true) (a0 a1 a2 a3 a4 a5 a6 a7 a8 a9 a10 a11 a12 a13 a14 a15 a16 a17 a18 a19 a20 a21 a22 a23 : U20) :
    Code.wp Tryz.prog (tailOf 139 Tryz.f54) (bodyPost Tryz.prog Tryz.f54 (Reads b fb x (some (if kw (upS (wordOf s x.pos (run isPart s x.pos))).toList = true then .other else .field, run isPart s x.pos, x.dot)) w)) (frame54 b a0 a1 a2 a3 a4 a5 a6 a7 a8 a9 a10 a11 a12 a13 a14 a15 a16 a17 a18 a19 a20 a21 a22 a23) wr := by
  have hat := h.at_
  obtain ⟨RR, hRR⟩ : ∃ RR, (some ((if kw (upS (wordOf s x.pos (run isPart s x.pos))).toList = true then Kd.other else Kd.field), run isPart s x.pos, x.dot) : Option (Kd × Int × Bool)) = RR := ⟨_, rfl⟩
  rw [hRR]
  have HRR := Aside0.mk hRR
  clear hRR
  unfold frame54
  conv => arg 2; whnf
  go_wp2_with (first
    | (go_at_call 77; (with_reducible refine (peek_c b fb s x.pos _ _ (by first | exact hat | exact hat.drewN _) hp0 (by omega) (by omega) (by omega) (by omega)).mono ?_); rintro e w' ⟨rfl, ⟨n5, rfl⟩⟩)
    | (go_at_call 82; (with_reducible refine (charIsIdentStart_c _ _).mono ?_); rintro e w' ⟨rfl, hw'⟩; obtain rfl := hw'.symm))
  go_loopg [10] (((s.size : Int) - x.pos).toNat + 1) (fun kq v10 wj => ∃ i : Int, v10 = .int .i64 i ∧ Aside0 (0 ≤ i ∧ x.pos + i ≤ (s.size : Int) ∧ run isPart s (x.pos + i) = run isPart s x.pos ∧ ((s.size : Int) - (x.pos + i)).toNat < kq) ∧ Drawn0 wr wj)
  case atStart => exact ⟨0, rfl, ⟨Int.le_refl _, by omega, by rw [Int.add_zero], by omega⟩, by repeat (first | exact Drawn0.refl _ | apply Drawn0.step)⟩
  case round =>
    obtain ⟨i, rfl, HA, ⟨m1, rfl⟩⟩ := hrel
    have hi0 : 0 ≤ i := HA.out.1
    have hi1 := HA.out.2.1
    have hwi := iwrap (i + 1) (by omega) (by omega)
    by_cases hlt : x.pos + i < (s.size : Int)
    · have hd1 : decide (x.pos + i < (s.size : Int)) = true := decide_eq_true hlt
      cases hq : isPart (bt s (x.pos + i)) with
      | true =>
        have HQ := Aside0.mk hq
        go_wp2_with (first
          | (go_at_call 75; (with_reducible refine (peekOk_c b fb s x.pos _ _ (by first | exact hat | exact hat.drewN _) hp0 (by omega) (by omega) (by omega)).mono ?_); rintro e w' ⟨rfl, ⟨n4, rfl⟩⟩)
          | (go_at_call 77; (with_reducible refine (peek_c b fb s x.pos _ _ (by first | exact hat | exact hat.drewN _) hp0 (by omega) (by omega) (by omega) (by omega)).mono ?_); rintro e w' ⟨rfl, ⟨n5, rfl⟩⟩)
          | (go_at_call 76; (with_reducible refine (charIsIdentPart_c _ _).mono ?_); rintro e w' ⟨rfl, hw'⟩; obtain rfl := hw'.symm))
        go_roundg (((s.size : Int) - (x.pos + (i + 1))).toNat + 1)
        case measure => have := HA.out.2.2.2; omega
        case rel => exact ⟨i + 1, rfl, ⟨by omega, by omega, by rw [← HA.out.2.2.1, ← Int.add_assoc]; exact (run_step hlt HQ.out).symm, by omega⟩, by repeat (first | exact Drawn0.refl _ | apply Drawn0.step)⟩
      | false =>
        have HR := Aside0.mk (show run isPart s x.pos = x.pos + i by rw [← HA.out.2.2.1]; exact run_stop hq)
        cases hk : kw (upS (s.extract x.pos.toNat (x.pos + i).toNat)).toList with
        | true =>
          have HKW := Aside0.mk hk
          go_wp2_with (first
            | (go_at_call 75; (with_reducible refine (peekOk_c b fb s x.pos _ _ (by first | exact hat | exact hat.drewN _) hp0 (by omega) (by omega) (by omega)).mono ?_); rintro e w' ⟨rfl, ⟨n4, rfl⟩⟩)
            | (go_at_call 77; (with_reducible refine (peek_c b fb s x.pos _ _ (by first | exact hat | exact hat.drewN _) hp0 (by omega) (by omega) (by omega) (by omega)).mono ?_); rintro e w' ⟨rfl, ⟨n5, rfl⟩⟩)
            | (go_at_call 76; (with_reducible refine (charIsIdentPart_c _ _).mono ?_); rintro e w' ⟨rfl, hw'⟩; obtain rfl := hw'.symm)
            | (go_at_call 88; (with_reducible refine (slice_c b fb s x.pos _ _ _ (by first | exact hat | exact hat.drewN _) hp0 (by omega) (by omega) (by omega) (by omega) (by omega)).mono ?_); rintro e w' ⟨rfl, ⟨n6, rfl⟩⟩)
            | (go_at_call 72; (with_reducible refine (skipN_c b fb s x.pos i _ (hat.drewN _) ((h.l.drewN _).free 9) hp0 (by omega) hi0 (by omega)).mono ?_); rintro e w' ⟨rfl, hw9⟩; have hX9 : Lx0 w' b fb s { x with pos := x.pos + i } := (by rw [hw9]; exact (h.drewN _).set9 _); have hU9 : Ups b wr w' := (by rw [hw9]; exact ((Ups.refl b wr).drewN _).set 9 _); clear hw9)
            | (go_at_call 89; (with_reducible refine (toUpper_c _ _ (by rw [ByteArray.size_extract]; omega)).mono ?_); rintro e W ⟨rfl, hbW⟩; have hXW := hX9.below hbW; have hUW := hU9.below hbW; have K1 := hXW.l.c1; have Y1 := hXW.l.free 1; have K5 := hXW.l.c5; have Y5 := hXW.l.free 5)
            | (go_at_call 90; (with_reducible refine (zzKeyword_c _ _).mono ?_); rintro e w' ⟨rfl, hw'⟩; obtain rfl := hw'.symm))
          (try simp only [Exit.inBlock, Exit.then]); refine bodyPost_ret (results_none rfl _ _ _) rfl ?_
          rw [← HRR.out, HR.out]
          unfold wordOf
          rw [if_pos HKW.out]
          exact Reads.mono hU ⟨rfl, hUW.set 1 _, _, _, _, kd_kw _ HKW.out, (hXW.set1 _).l⟩
        | false =>
          have HKW := Aside0.mk hk
          go_wp2_with (first
            | (go_at_call 75; (with_reducible refine (peekOk_c b fb s x.pos _ _ (by first | exact hat | exact hat.drewN _) hp0 (by omega) (by omega) (by omega)).mono ?_); rintro e w' ⟨rfl, ⟨n4, rfl⟩⟩)
            | (go_at_call 77; (with_reducible refine (peek_c b fb s x.pos _ _ (by first | exact hat | exact hat.drewN _) hp0 (by omega) (by omega) (by omega) (by omega)).mono ?_); rintro e w' ⟨rfl, ⟨n5, rfl⟩⟩)
            | (go_at_call 76; (with_reducible refine (charIsIdentPart_c _ _).mono ?_); rintro e w' ⟨rfl, hw'⟩; obtain rfl := hw'.symm)
            | (go_at_call 88; (with_reducible refine (slice_c b fb s x.pos _ _ _ (by first | exact hat | exact hat.drewN _) hp0 (by omega) (by omega) (by omega) (by omega) (by omega)).mono ?_); rintro e w' ⟨rfl, ⟨n6, rfl⟩⟩)
            | (go_at_call 72; (with_reducible refine (skipN_c b fb s x.pos i _ (hat.drewN _) ((h.l.drewN _).free 9) hp0 (by omega) hi0 (by omega)).mono ?_); rintro e w' ⟨rfl, hw9⟩; have hX9 : Lx0 w' b fb s { x with pos := x.pos + i } := (by rw [hw9]; exact (h.drewN _).set9 _); have hU9 : Ups b wr w' := (by rw [hw9]; exact ((Ups.refl b wr).drewN _).set 9 _); clear hw9)
            | (go_at_call 89; (with_reducible refine (toUpper_c _ _ (by rw [ByteArray.size_extract]; omega)).mono ?_); rintro e W ⟨rfl, hbW⟩; have hXW := hX9.below hbW; have hUW := hU9.below hbW; have K1 := hXW.l.c1; have Y1 := hXW.l.free 1; have K5 := hXW.l.c5; have Y5 := hXW.l.free 5)
            | (go_at_call 90; (with_reducible refine (zzKeyword_c _ _).mono ?_); rintro e w' ⟨rfl, hw'⟩; obtain rfl := hw'.symm))
          (try simp only [Exit.inBlock, Exit.then]); refine bodyPost_ret (results_none rfl _ _ _) rfl ?_
          rw [← HRR.out, HR.out]
          unfold wordOf
          rw [if_neg (by rw [HKW.out]; decide)]
          exact Reads.mono hU ⟨rfl, (hUW.set 1 _).set 5 _, ⟨#[60, 105, 100, 101, 110, 116, 62]⟩, _, _, kd_lit _ rfl, ((hXW.set1 _).set5 _).l⟩
    · have hd1 : decide (x.pos + i < (s.size : Int)) = false := decide_eq_false hlt
      have HR := Aside0.mk (show run isPart s x.pos = x.pos + i by rw [← HA.out.2.2.1]; exact run_end (by omega))
      cases hk : kw (upS (s.extract x.pos.toNat (x.pos + i).toNat)).toList with
      | true =>
        have HKW := Aside0.mk hk
        go_wp2_with (first
          | (go_at_call 75; (with_reducible refine (peekOk_c b fb s x.pos _ _ (by first | exact hat | exact hat.drewN _) hp0 (by omega) (by omega) (by omega)).mono ?_); rintro e w' ⟨rfl, ⟨n4, rfl⟩⟩)
          | (go_at_call 88; (with_reducible refine (slice_c b fb s x.pos _ _ _ (by first | exact hat | exact hat.drewN _) hp0 (by omega) (by omega) (by omega) (by omega) (by omega)).mono ?_); rintro e w' ⟨rfl, ⟨n6, rfl⟩⟩)
          | (go_at_call 72; (with_reducible refine (skipN_c b fb s x.pos i _ (hat.drewN _) ((h.l.drewN _).free 9) hp0 (by omega) hi0 (by omega)).mono ?_); rintro e w' ⟨rfl, hw9⟩; have hX9 : Lx0 w' b fb s { x with pos := x.pos + i } := (by rw [hw9]; exact (h.drewN _).set9 _); have hU9 : Ups b wr w' := (by rw [hw9]; exact ((Ups.refl b wr).drewN _).set 9 _); clear hw9)
          | (go_at_call 89; (with_reducible refine (toUpper_c _ _ (by rw [ByteArray.size_extract]; omega)).mono ?_); rintro e W ⟨rfl, hbW⟩; have hXW := hX9.below hbW; have hUW := hU9.below hbW; have K1 := hXW.l.c1; have Y1 := hXW.l.free 1; have K5 := hXW.l.c5; have Y5 := hXW.l.free 5)
          | (go_at_call 90; (with_reducible refine (zzKeyword_c _ _).mono ?_); rintro e w' ⟨rfl, hw'⟩; obtain rfl := hw'.symm))
        (try simp only [Exit.inBlock, Exit.then]); refine bodyPost_ret (results_none rfl _ _ _) rfl ?_
        rw [← HRR.out, HR.out]
        unfold wordOf
        rw [if_pos HKW.out]
        exact Reads.mono hU ⟨rfl, hUW.set 1 _, _, _, _, kd_kw _ HKW.out, (hXW.set1 _).l⟩
      | false =>
        have HKW := Aside0.mk hk
        go_wp2_with (first
          | (go_at_call 75; (with_reducible refine (peekOk_c b fb s x.pos _ _ (by first | exact hat | exact hat.drewN _) hp0 (by omega) (by omega) (by omega)).mono ?_); rintro e w' ⟨rfl, ⟨n4, rfl⟩⟩)
          | (go_at_call 88; (with_reducible refine (slice_c b fb s x.pos _ _ _ (by first | exact hat | exact hat.drewN _) hp0 (by omega) (by omega) (by omega) (by omega) (by omega)).mono ?_); rintro e w' ⟨rfl, ⟨n6, rfl⟩⟩)
          | (go_at_call 72; (with_reducible refine (skipN_c b fb s x.pos i _ (hat.drewN _) ((h.l.drewN _).free 9) hp0 (by omega) hi0 (by omega)).mono ?_); rintro e w' ⟨rfl, hw9⟩; have hX9 : Lx0 w' b fb s { x with pos := x.pos + i } := (by rw [hw9]; exact (h.drewN _).set9 _); have hU9 : Ups b wr w' := (by rw [hw9]; exact ((Ups.refl b wr).drewN _).set 9 _); clear hw9)
          | (go_at_call 89; (with_reducible refine (toUpper_c _ _ (by rw [ByteArray.size_extract]; omega)).mono ?_); rintro e W ⟨rfl, hbW⟩; have hXW := hX9.below hbW; have hUW := hU9.below hbW; have K1 := hXW.l.c1; have Y1 := hXW.l.free 1; have K5 := hXW.l.c5; have Y5 := hXW.l.free 5)
          | (go_at_call 90; (with_reducible refine (zzKeyword_c _ _).mono ?_); rintro e w' ⟨rfl, hw'⟩; obtain rfl := hw'.symm))
        (try simp only [Exit.inBlock, Exit.then]); refine bodyPost_ret (results_none rfl _ _ _) rfl ?_
        rw [← HRR.out, HR.out]
        unfold wordOf
        rw [if_neg (by rw [HKW.out]; decide)]
        exact Reads.mono hU ⟨rfl, (hUW.set 1 _).set 5 _, ⟨#[60, 105, 100, 101, 110, 116, 62]⟩, _, _, kd_lit _ rfl, ((hXW.set1 _).set5 _).l⟩
end Go.Proofs.YtjepdlmcombmcaaGreatDoor.Lx
