/- The backward search: from the point where the run of equal lines begins. -/
import Derived.Test.Qxb6602567aMsSnB
import Derived.Deep.CutRange
namespace Go.Proofs.Qxb6602567a.Ms
open Go Go.RowKit
set_option linter.unusedVariables false

set_option maxHeartbeats 4000000 in
set_option maxRecDepth 100000 in
theorem restB (w0 wr : World) (B gA gT gf gb cA cT R cf cb fl fh tl th n m at0 d x y p pb : Nat) (k bk : Int) (odd : Bool) (A T : List ByteArray) (F G : List Int) (u5 u6 u7 u8 u9 u10 u11 u12 u13 u18 u23 u24 u25 u26 u27 u28 u31 u32 u33 u34 u35 u36 u37 u38 u39 u40 u41 u42 u43 u44 u45 u46 u47 u48 u49 u50 u51 u52 u53 u54 u55 u56 u57 u58 u59 u60 u61 u62 u63 u64 u65 u66 u67 u68 u69 u70 u71 u72 u73 u74 u75 u76 u77 u78 u79 u80 u81 u82 u83 u84 u85 u86 u87 u88 u89 u90 u91 u92 u93 u94 u95 u96 u97 u98 u99 u100 u101 u102 u103 u104 u105 u106 u107 u108 u109 u110 u111 u112 u113 u114 u115 u116 u117 u118 u119 u120 u121 u122 u123 u124 u125 u126 u127 u128 u129 u130 u131 u132 u133 u134 u135 u136 u137 u138 u139 u140 u141 u142 u143 u144 u145 u146 u147 u148 u149 u150 u151 u152 u153 u154 u155 u156 u157 u158 u159 u160 u161 u162 u163 u164 u165 u166 u167 u168 u169 u170 u171 u172 u173 u174 u175 u176 u177 u178 u179 u180 u181 u182 u183 u184 u185 u186 u187 u188 u189 u190 u191 u192 u193 u194 u195 u196 u197 u198 u199 u200 u201 u202 u203 u204 u205 u206 u207 u208 u209 u210 u211 u212 u213 u214 u215 u216 u217 u218 u219 u220 u221 u222 u223 u224 u225 u226 u227 u228 u229 u230 u231 u232 u233 u234 u235 u236 u237 u238 u239 u240 u241 u242 u243 u244 u245 u246 u247 u248 u249 u250 u251 u252 u253 u254 u255 u256 u257 u258 u259 u260 u261 u262 u263 u264 u265 u266 u267 u268 u269 u270 u271 u272 u273 u274 u275 u276 u277 u278 u279 u280 u281 u282 u283 u284 u285 u286 u287 u288 u289 u290 u291 u292 u293 u294 u295 u296 u297 u298 u299 u300 u301 u302 u303 u304 u305 u306 u307 u308 u309 u310 u311 u312 u313 u314 u315 u316 u317 u318 u319 u320 u321 u322 u323 u324 u325 u326 u327 u328 u329 u330 u331 u332 u333 u334 u335 u336 u337 u338 u339 u340 u341 u342 u343 u344 u345 u346 u347 u348 u349 u350 u351 u352 u353 u354 u355 u356 u357 u358 u359 u360 u361 u362 u363 u364 u365 u366 u367 : Value)
    (hM : Mem w0 wr B gA gT gf gb cA cT R cf cb A T F G) (hodd : odd = decide ((n + m) % 2 = 1)) (hfh : fh = fl + n) (hth : th = tl + m) (hA : fh ≤ A.length) (hT : th ≤ T.length) (hAL : A.length ≤ 65536) (hTL : T.length ≤ 65536) (hd : d < at0) (hat : at0 ≤ 65538) (hR : at0 + at0 ≤ R) (hRm : R ≤ 131076)
    (hk : k = (x : Int) - y) (hk1 : -(d : Int) ≤ k) (hk2 : k ≤ d) (hkp : (k - d) % 2 = 0) (hp : (p : Int) = (at0 : Int) + k) (hbk : bk = (n : Int) - m - k) (hpb : -(d : Int) ≤ bk → bk ≤ (d : Int) → (pb : Int) = (at0 : Int) + bk)
    (hxy : Dst (eqB A T fh th n m) x y ≤ d) (hsa : k = -(d : Int) ∨ ∃ a : Int, 0 < d ∧ Fz (eqB A T fh th n m) (d - 1) (k - 1) a ∧ a + 1 ≤ x) (hsb : k = (d : Int) ∨ ∃ b : Int, 0 < d ∧ Fz (eqB A T fh th n m) (d - 1) (k + 1) b ∧ b ≤ x)
    (hG : Fw (eqA A T fl tl n m) at0 d F) (hD : 2 * d ≤ Dst (eqA A T fl tl n m) n m + 1)
    (Q0 : Exit → Act → World → Prop) (K : Act → World → Prop)
    (hKK : ∀ a w, Code.wp Try.prog (((Try.f15.body.bind (inB 7)).bind (tlR 33)).getD .skip) Q0 a w → K a w)
    (hRet : ∀ (t : Array Value) (wx : World) (x y j : Nat), t.getD 10 undef = .int .i64 ((fl : Int) + (x : Int)) → t.getD 11 undef = .int .i64 ((tl : Int) + (y : Int)) → t.getD 12 undef = .int .i64 ((fl : Int) + ((x + j : Nat) : Int)) → t.getD 13 undef = .int .i64 ((tl : Int) + ((y + j : Nat) : Int)) → Cuts (eqA A T fl tl n m) (eqB A T fh th n m) n m x y j → Below w0.heap.size w0 wx → Q0 .ret ⟨t, []⟩ wx)
    (hEnd : ∀ (v30 v31 v32 v33 v34 v258 v259 v260 v261 v262 v263 v264 v265 v266 v267 v268 v269 v270 v271 v272 v273 v274 v275 v276 v277 v278 v279 v280 v281 v282 v283 v284 v285 v286 v287 v288 v289 v290 v291 v292 v293 v294 v295 v296 v297 v298 v299 v300 v301 v302 v303 v304 v305 v306 v307 v308 v309 v310 v311 v312 v313 v314 v315 v316 v317 v318 v319 v320 v321 v322 v323 v324 v325 v326 v327 v328 v329 v330 v331 : Value) (wx : World) (v : Int), Mem w0 wx B gA gT gf gb cA cT R cf cb A T F (G.set p v) → Fz (eqB A T fh th n m) d k v → (odd = false → -(d : Int) ≤ bk → bk ≤ (d : Int) → v < (n : Int) - ig F pb) → Q0 .normal ⟨List.toArray (.pointer (some ⟨B, 0, none⟩) :: .int .i64 (fl : Int) :: .int .i64 (fh : Int) :: .int .i64 (tl : Int) :: .int .i64 (th : Int) :: u5 :: u6 :: u7 :: u8 :: u9 :: u10 :: u11 :: u12 :: u13 :: .int .i64 (n : Int) :: .int .i64 (m : Int) :: .int .i64 ((n : Int) - (m : Int)) :: .bool odd :: u18 :: .int .i64 (at0 : Int) :: .slice (some ⟨gf, 0, none⟩) R cf :: .slice (some ⟨gb, 0, none⟩) R cb :: .int .i64 (d : Int) :: u23 :: u24 :: u25 :: u26 :: u27 :: u28 :: .int .i64 k :: v30 :: v31 :: v32 :: v33 :: v34 :: u35 :: u36 :: u37 :: u38 :: u39 :: u40 :: u41 :: u42 :: u43 :: u44 :: u45 :: u46 :: u47 :: u48 :: u49 :: u50 :: u51 :: u52 :: u53 :: u54 :: u55 :: u56 :: u57 :: u58 :: u59 :: u60 :: u61 :: u62 :: u63 :: u64 :: u65 :: u66 :: u67 :: u68 :: u69 :: u70 :: u71 :: u72 :: u73 :: u74 :: u75 :: u76 :: u77 :: u78 :: u79 :: u80 :: u81 :: u82 :: u83 :: u84 :: u85 :: u86 :: u87 :: u88 :: u89 :: u90 :: u91 :: u92 :: u93 :: u94 :: u95 :: u96 :: u97 :: u98 :: u99 :: u100 :: u101 :: u102 :: u103 :: u104 :: u105 :: u106 :: u107 :: u108 :: u109 :: u110 :: u111 :: u112 :: u113 :: u114 :: u115 :: u116 :: u117 :: u118 :: u119 :: u120 :: u121 :: u122 :: u123 :: u124 :: u125 :: u126 :: u127 :: u128 :: u129 :: u130 :: u131 :: u132 :: u133 :: u134 :: u135 :: u136 :: u137 :: u138 :: u139 :: u140 :: u141 :: u142 :: u143 :: u144 :: u145 :: u146 :: u147 :: u148 :: u149 :: u150 :: u151 :: u152 :: u153 :: u154 :: u155 :: u156 :: u157 :: u158 :: u159 :: u160 :: u161 :: u162 :: u163 :: u164 :: u165 :: u166 :: u167 :: u168 :: u169 :: u170 :: u171 :: u172 :: u173 :: u174 :: u175 :: u176 :: u177 :: u178 :: u179 :: u180 :: u181 :: u182 :: u183 :: u184 :: u185 :: u186 :: u187 :: u188 :: u189 :: u190 :: u191 :: u192 :: u193 :: u194 :: u195 :: u196 :: u197 :: u198 :: u199 :: u200 :: u201 :: u202 :: u203 :: u204 :: u205 :: u206 :: u207 :: u208 :: u209 :: u210 :: u211 :: u212 :: u213 :: u214 :: u215 :: u216 :: u217 :: u218 :: u219 :: u220 :: u221 :: u222 :: u223 :: u224 :: u225 :: u226 :: u227 :: u228 :: u229 :: u230 :: u231 :: u232 :: u233 :: u234 :: u235 :: u236 :: u237 :: u238 :: u239 :: u240 :: u241 :: u242 :: u243 :: u244 :: u245 :: u246 :: u247 :: u248 :: u249 :: u250 :: u251 :: u252 :: u253 :: u254 :: u255 :: u256 :: u257 :: v258 :: v259 :: v260 :: v261 :: v262 :: v263 :: v264 :: v265 :: v266 :: v267 :: v268 :: v269 :: v270 :: v271 :: v272 :: v273 :: v274 :: v275 :: v276 :: v277 :: v278 :: v279 :: v280 :: v281 :: v282 :: v283 :: v284 :: v285 :: v286 :: v287 :: v288 :: v289 :: v290 :: v291 :: v292 :: v293 :: v294 :: v295 :: v296 :: v297 :: v298 :: v299 :: v300 :: v301 :: v302 :: v303 :: v304 :: v305 :: v306 :: v307 :: v308 :: v309 :: v310 :: v311 :: v312 :: v313 :: v314 :: v315 :: v316 :: v317 :: v318 :: v319 :: v320 :: v321 :: v322 :: v323 :: v324 :: v325 :: v326 :: v327 :: v328 :: v329 :: v330 :: v331 :: u332 :: u333 :: u334 :: u335 :: u336 :: u337 :: u338 :: u339 :: u340 :: u341 :: u342 :: u343 :: u344 :: u345 :: u346 :: u347 :: u348 :: u349 :: u350 :: u351 :: u352 :: u353 :: u354 :: u355 :: u356 :: u357 :: u358 :: u359 :: u360 :: u361 :: u362 :: u363 :: u364 :: u365 :: u366 :: u367 :: List.nil), []⟩ wx) :
    Code.wp Try.prog (((Try.f15.body.bind (inB 7)).bind (hdR 33)).getD .skip) (Exit.then K Q0) ⟨List.toArray (.pointer (some ⟨B, 0, none⟩) :: .int .i64 (fl : Int) :: .int .i64 (fh : Int) :: .int .i64 (tl : Int) :: .int .i64 (th : Int) :: u5 :: u6 :: u7 :: u8 :: u9 :: u10 :: u11 :: u12 :: u13 :: .int .i64 (n : Int) :: .int .i64 (m : Int) :: .int .i64 ((n : Int) - (m : Int)) :: .bool odd :: u18 :: .int .i64 (at0 : Int) :: .slice (some ⟨gf, 0, none⟩) R cf :: .slice (some ⟨gb, 0, none⟩) R cb :: .int .i64 (d : Int) :: u23 :: u24 :: u25 :: u26 :: u27 :: u28 :: .int .i64 k :: .int .i64 (x : Int) :: u31 :: u32 :: u33 :: u34 :: u35 :: u36 :: u37 :: u38 :: u39 :: u40 :: u41 :: u42 :: u43 :: u44 :: u45 :: u46 :: u47 :: u48 :: u49 :: u50 :: u51 :: u52 :: u53 :: u54 :: u55 :: u56 :: u57 :: u58 :: u59 :: u60 :: u61 :: u62 :: u63 :: u64 :: u65 :: u66 :: u67 :: u68 :: u69 :: u70 :: u71 :: u72 :: u73 :: u74 :: u75 :: u76 :: u77 :: u78 :: u79 :: u80 :: u81 :: u82 :: u83 :: u84 :: u85 :: u86 :: u87 :: u88 :: u89 :: u90 :: u91 :: u92 :: u93 :: u94 :: u95 :: u96 :: u97 :: u98 :: u99 :: u100 :: u101 :: u102 :: u103 :: u104 :: u105 :: u106 :: u107 :: u108 :: u109 :: u110 :: u111 :: u112 :: u113 :: u114 :: u115 :: u116 :: u117 :: u118 :: u119 :: u120 :: u121 :: u122 :: u123 :: u124 :: u125 :: u126 :: u127 :: u128 :: u129 :: u130 :: u131 :: u132 :: u133 :: u134 :: u135 :: u136 :: u137 :: u138 :: u139 :: u140 :: u141 :: u142 :: u143 :: u144 :: u145 :: u146 :: u147 :: u148 :: u149 :: u150 :: u151 :: u152 :: u153 :: u154 :: u155 :: u156 :: u157 :: u158 :: u159 :: u160 :: u161 :: u162 :: u163 :: u164 :: u165 :: u166 :: u167 :: u168 :: u169 :: u170 :: u171 :: u172 :: u173 :: u174 :: u175 :: u176 :: u177 :: u178 :: u179 :: u180 :: u181 :: u182 :: u183 :: u184 :: u185 :: u186 :: u187 :: u188 :: u189 :: u190 :: u191 :: u192 :: u193 :: u194 :: u195 :: u196 :: u197 :: u198 :: u199 :: u200 :: u201 :: u202 :: u203 :: u204 :: u205 :: u206 :: u207 :: u208 :: u209 :: u210 :: u211 :: u212 :: u213 :: u214 :: u215 :: u216 :: u217 :: u218 :: u219 :: u220 :: u221 :: u222 :: u223 :: u224 :: u225 :: u226 :: u227 :: u228 :: u229 :: u230 :: u231 :: u232 :: u233 :: u234 :: u235 :: u236 :: u237 :: u238 :: u239 :: u240 :: u241 :: u242 :: u243 :: u244 :: u245 :: u246 :: u247 :: u248 :: u249 :: u250 :: u251 :: u252 :: u253 :: u254 :: u255 :: u256 :: u257 :: u258 :: u259 :: u260 :: u261 :: u262 :: u263 :: u264 :: u265 :: u266 :: u267 :: u268 :: u269 :: u270 :: u271 :: u272 :: u273 :: u274 :: u275 :: u276 :: u277 :: u278 :: u279 :: u280 :: u281 :: u282 :: u283 :: u284 :: u285 :: u286 :: u287 :: u288 :: u289 :: u290 :: u291 :: u292 :: u293 :: u294 :: u295 :: u296 :: u297 :: u298 :: u299 :: u300 :: u301 :: u302 :: u303 :: u304 :: u305 :: u306 :: u307 :: u308 :: u309 :: u310 :: u311 :: u312 :: u313 :: u314 :: u315 :: u316 :: u317 :: u318 :: u319 :: u320 :: u321 :: u322 :: u323 :: u324 :: u325 :: u326 :: u327 :: u328 :: u329 :: u330 :: u331 :: u332 :: u333 :: u334 :: u335 :: u336 :: u337 :: u338 :: u339 :: u340 :: u341 :: u342 :: u343 :: u344 :: u345 :: u346 :: u347 :: u348 :: u349 :: u350 :: u351 :: u352 :: u353 :: u354 :: u355 :: u356 :: u357 :: u358 :: u359 :: u360 :: u361 :: u362 :: u363 :: u364 :: u365 :: u366 :: u367 :: List.nil), []⟩ wr := by
  conv => arg 2; whnf
  conv at hKK => intro a w; arg 1; arg 2; whnf
  have hreach := (eqB_box A T fh th n m).reach hxy
  have hxn := hreach.1
  have hym := hreach.2
  have wY : IntKind.i64.wrap ((x : Int) - k) = (y : Int) := by rw [IntWalk.i64_in _ ⟨by omega, by omega⟩]; omega
  have wP : IntKind.i64.wrap ((at0 : Int) + k) = (p : Int) := by rw [IntWalk.i64_in _ ⟨by omega, by omega⟩]; omega
  have wB : IntKind.i64.wrap ((n : Int) - (m : Int) - k) = bk := by rw [IntWalk.i64_in _ ⟨by omega, by omega⟩]; omega
  have hpR : (p : Int) < (R : Int) := by omega
  have hp0 : (0 : Int) ≤ (p : Int) := by omega
  have hnA : fl + n ≤ A.length := by omega
  have hmT : tl + m ≤ T.length := by omega
  have HM : Hid (Mem w0 wr B gA gT gf gb cA cT R cf cb A T F G) := hM
  have HODD : Hid (odd = decide ((n + m) % 2 = 1)) := hodd
  have HK : Hid (k = (x : Int) - y) := hk
  have HP : Hid ((p : Int) = (at0 : Int) + k) := hp
  have HBK : Hid (bk = (n : Int) - m - k) := hbk
  have HPB : Hid (-(d : Int) ≤ bk → bk ≤ (d : Int) → (pb : Int) = (at0 : Int) + bk) := hpb
  have HKP : Hid ((k - d) % 2 = 0) := hkp
  have HXY : Hid (Dst (eqB A T fh th n m) x y ≤ d) := hxy
  have HSA : Hid (k = -(d : Int) ∨ ∃ a : Int, 0 < d ∧ Fz (eqB A T fh th n m) (d - 1) (k - 1) a ∧ a + 1 ≤ x) := hsa
  have HSB : Hid (k = (d : Int) ∨ ∃ b : Int, 0 < d ∧ Fz (eqB A T fh th n m) (d - 1) (k + 1) b ∧ b ≤ x) := hsb
  have HG : Hid (Fw (eqA A T fl tl n m) at0 d F) := hG
  have HD : Hid (2 * d ≤ Dst (eqA A T fl tl n m) n m + 1) := hD
  have HF : Hid (fh = fl + n ∧ th = tl + m) := ⟨hfh, hth⟩
  clear hM hodd hk hp hbk hpb hkp hxy hsa hsb hG hD hfh hth hreach
  go_upto_block 8 with fail
  go_cut [30, 31] from 258 to 331 (fun v24 v25 wr => ∃ X Y : Nat, X ≤ n + d ∧ Y ≤ m + d ∧ v24 = .int .i64 (X : Int) ∧ v25 = .int .i64 (Y : Int) ∧ Hid (∃ j, X = x + j ∧ Y = y + j ∧ Run (eqB A T fh th n m) x y j ∧ eqB A T fh th n m X Y = false) ∧ Hid (Mem w0 wr B gA gT gf gb cA cT R cf cb A T F G))
  case first =>
    go_wp2_with fail
    refine snakeB w0 wr B gA gT gf gb cA cT R cf cb fl fh tl th n m d x y A T F G _ _ _ _ _ _ _ _ _ _ _ _ _ _ _ _ _ _ _ _ _ _ _ _ _ _ _ _ _ _ _ _ _ _ _ _ _ _ _ _ _ _ _ _ _ _ _ _ _ _ _ _ _ _ _ _ _ _ _ _ _ _ _ _ _ _ _ _ _ _ _ _ _ _ _ _ _ _ _ _ _ _ _ _ _ _ _ _ _ _ _ _ _ _ _ _ _ _ _ _ _ _ _ _ _ _ _ _ _ _ _ _ _ _ _ _ _ _ _ _ _ _ _ _ _ _ _ _ _ _ _ _ _ _ _ _ _ _ _ _ _ _ _ _ _ _ _ _ _ _ _ _ _ _ _ _ _ _ _ _ _ _ _ _ _ _ _ _ _ _ _ _ _ _ _ _ _ _ _ _ _ _ _ _ _ _ _ _ _ _ _ _ _ _ _ _ _ _ _ _ _ _ _ _ _ _ _ _ _ _ _ _ _ _ _ _ _ _ _ _ _ _ _ _ _ _ _ _ _ _ _ _ _ _ _ _ _ _ _ _ _ _ _ _ _ _ _ _ _ _ _ _ _ _ _ _ _ _ _ _ _ _ _ _ _ _ _ _ _ _ _ _ _ _ _ _ _ _ _ _ _ _ _ _ _ _ _ _ _ _ _ _ _ _ _ _ _ _ _ _ _ _ _ _ _ _ _ _ _ _ _ _ _ _ _ _ _ _ _ _ _ _ _ _ _ _ _ _ _ _ _ _ _ _ _ _ _ _ _ _ _ _ _ _ _ _ _ _ _ _ _ _ _ _ _ _ _ _ _ HM.out (by have := HF.out.1; omega) (by have := HF.out.2; omega) hA hT hAL hTL (by omega) hxn hym _ ?_
    intro X Y v263 v264 v265 v266 v267 v268 v269 v270 v271 v272 v273 v274 v275 v276 v277 v278 v279 v280 v281 v282 v283 v284 v285 v286 v287 v288 v289 v290 v291 v292 v293 v294 v295 v296 v297 wx hX hY hj hm
    go_wp2_with fail
    go_meet
    case rel => exact ⟨X, Y, hX, hY, rfl, rfl, hj, hm⟩
  case rest =>
    obtain ⟨X, Y, hX, hY, rfl, rfl, HJ, HM2⟩ := hcut
    have HZ : Hid (Fz (eqB A T fh th n m) d k (X : Int)) := by
      obtain ⟨j, h1, h2, h3, h4⟩ := HJ.out
      rw [h1]
      rw [h1, h2] at h4
      exact Fz.step HK.out HXY.out HKP.out h3 h4 HSA.out HSB.out
    have f1 := HM2.out.frG p
    have f2 := HM2.out.cellG (i := p) (by omega)
    have HM3 : Hid (Mem w0 (wc.setCell ⟨gb, p, none⟩ (.int .i64 (X : Int))) B gA gT gf gb cA cT R cf cb A T F (G.set p (X : Int))) := HM2.out.setG p (X : Int)
    cases odd with
    | true =>
      go_wp2_with fail
      exact hEnd _ _ _ _ _ _ _ _ _ _ _ _ _ _ _ _ _ _ _ _ _ _ _ _ _ _ _ _ _ _ _ _ _ _ _ _ _ _ _ _ _ _ _ _ _ _ _ _ _ _ _ _ _ _ _ _ _ _ _ _ _ _ _ _ _ _ _ _ _ _ _ _ _ _ _ _ _ _ _ _ (X : Int) HM3.out HZ.out (fun h => absurd h (by simp))
    | false =>
      by_cases c1 : -(d : Int) ≤ bk
      · have b1 : decide (-(d : Int) ≤ bk) = true := by simpa using c1
        by_cases c2 : bk ≤ (d : Int)
        · have b2 : decide (bk ≤ (d : Int)) = true := by simpa using c2
          have hpb := HPB.out c1 c2
          have wPB : IntKind.i64.wrap ((at0 : Int) + bk) = (pb : Int) := by rw [IntWalk.i64_in _ ⟨by omega, by omega⟩]; omega
          have q1 : (pb : Int) < (R : Int) := by omega
          have q2 : (0 : Int) ≤ (pb : Int) := by omega
          have g2 := HM3.out.cellF (i := pb) (by omega)
          have hev : (n + m) % 2 = 0 := by have := HODD.out; simp at this; omega
          have hzb : Fz (eqA A T fl tl n m) d bk (ig F pb) := by
            have := HG.out bk (by omega) (by omega) (by have := HBK.out; have := HKP.out; omega)
            have e1 : ((at0 : Int) + bk).toNat = pb := by omega
            rw [e1] at this
            exact this
          have hr := Fz.reach (eqA_box A T fl tl n m) hzb
          have HZB : Hid (Fz (eqA A T fl tl n m) d bk (ig F pb)) := hzb
          obtain ⟨hr1, hr2⟩ := hr
          have HEV : Hid ((n + m) % 2 = 0) := hev
          clear hpb hzb hev
          by_cases c3 : (n : Int) - (X : Int) ≤ ig F pb
          · have b3 : decide ((n : Int) - (X : Int) ≤ ig F pb) = true := by simpa using c3
            obtain ⟨j, h1, h2, h3, h4⟩ := HJ.out
            have hcut : x + j ≤ n ∧ y + j ≤ m ∧ Cuts (eqA A T fl tl n m) (eqB A T fh th n m) n m (n - (x + j)) (m - (y + j)) j := by
              have hz := HZ.out
              have hzb := HZB.out
              rw [HBK.out] at hzb
              have hrev := eq_rev A T fl tl n m
              rw [← HF.out.1, ← HF.out.2] at hrev
              have hpar := par_box (e := eqA A T fl tl n m) (n := n) (m := m)
              have hev := HEV.out
              have hD := HD.out
              have := cuts_even hrev HK.out h3 (by rw [h1]) hz hzb (by omega) (by have := HBK.out; omega) (by have := HBK.out; omega) c3
              exact ⟨this.1, this.2.1, this.2.2.1⟩
            have HC : Hid (x + j ≤ n ∧ y + j ≤ m ∧ Cuts (eqA A T fl tl n m) (eqB A T fh th n m) n m (n - (x + j)) (m - (y + j)) j) := hcut
            have hXn : X ≤ n := by omega
            have hYm : Y ≤ m := by omega
            have hxx : x ≤ n := by omega
            have hyy : y ≤ m := by omega
            have HH : Hid (X = x + j ∧ Y = y + j) := ⟨h1, h2⟩
            have HB : Hid (Below w0.heap.size w0 (wc.setCell ⟨gb, p, none⟩ (.int .i64 (X : Int)))) := HM3.out.bel
            clear h1 h2 h3 h4 hcut
            go_wp2_with fail
            have h1 := HH.out.1
            have h2 := HH.out.2
            have h3 := HC.out.1
            have h4 := HC.out.2.1
            have h5 := HF.out.1
            have h6 := HF.out.2
            exact hRet _ _ (n - (x + j)) (m - (y + j)) j (congrArg (Value.int .i64) (by omega)) (congrArg (Value.int .i64) (by omega)) (congrArg (Value.int .i64) (by omega)) (congrArg (Value.int .i64) (by omega)) HC.out.2.2 HB.out
          · have b3 : decide ((n : Int) - (X : Int) ≤ ig F pb) = false := by simpa using c3
            go_wp2_with fail
            exact hEnd _ _ _ _ _ _ _ _ _ _ _ _ _ _ _ _ _ _ _ _ _ _ _ _ _ _ _ _ _ _ _ _ _ _ _ _ _ _ _ _ _ _ _ _ _ _ _ _ _ _ _ _ _ _ _ _ _ _ _ _ _ _ _ _ _ _ _ _ _ _ _ _ _ _ _ _ _ _ _ _ (X : Int) HM3.out HZ.out (fun _ _ _ => by omega)
        · have b2 : decide (bk ≤ (d : Int)) = false := by simpa using c2
          go_wp2_with fail
          exact hEnd _ _ _ _ _ _ _ _ _ _ _ _ _ _ _ _ _ _ _ _ _ _ _ _ _ _ _ _ _ _ _ _ _ _ _ _ _ _ _ _ _ _ _ _ _ _ _ _ _ _ _ _ _ _ _ _ _ _ _ _ _ _ _ _ _ _ _ _ _ _ _ _ _ _ _ _ _ _ _ _ (X : Int) HM3.out HZ.out (fun _ _ h => absurd h (by omega))
      · have b1 : decide (-(d : Int) ≤ bk) = false := by simpa using c1
        go_wp2_with fail
        exact hEnd _ _ _ _ _ _ _ _ _ _ _ _ _ _ _ _ _ _ _ _ _ _ _ _ _ _ _ _ _ _ _ _ _ _ _ _ _ _ _ _ _ _ _ _ _ _ _ _ _ _ _ _ _ _ _ _ _ _ _ _ _ _ _ _ _ _ _ _ _ _ _ _ _ _ _ _ _ _ _ _ (X : Int) HM3.out HZ.out (fun _ h => absurd h (by omega))
end Go.Proofs.Qxb6602567a.Ms
