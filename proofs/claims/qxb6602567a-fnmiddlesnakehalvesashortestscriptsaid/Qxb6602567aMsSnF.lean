/- A run of equal lines is walked to its end. -/
import Derived.Test.Qxb6602567aMsInv
import Derived.Lib.SlicesS
namespace Go.Proofs.Qxb6602567a.Ms
open Go Go.RowKit
set_option linter.unusedVariables false

set_option maxHeartbeats 8000000 in
set_option maxRecDepth 100000 in
theorem snakeF (w0 wr : World) (B gA gT gf gb cA cT R cf cb fl fh tl th n m d x y : Nat) (A T : List ByteArray) (F G : List Int) (u5 u6 u7 u8 u9 u10 u11 u12 u13 u16 u17 u18 u19 u20 u21 u22 u23 u26 u27 u28 u29 u30 u31 u32 u33 u34 u35 u36 u37 u38 u39 u40 u41 u42 u43 u44 u45 u46 u47 u48 u49 u50 u51 u52 u53 u54 u55 u56 u57 u58 u59 u60 u61 u62 u63 u64 u65 u66 u67 u68 u69 u70 u71 u72 u73 u74 u75 u76 u77 u78 u79 u80 u81 u82 u83 u84 u85 u86 u87 u88 u89 u90 u91 u92 u93 u94 u95 u96 u97 u98 u99 u100 u101 u102 u103 u104 u105 u106 u107 u108 u109 u110 u111 u112 u113 u114 u115 u116 u117 u118 u119 u120 u121 u122 u123 u124 u125 u126 u127 u128 u129 u130 u131 u132 u133 u134 u135 u136 u137 u138 u139 u140 u141 u142 u143 u144 u145 u146 u147 u148 u149 u150 u151 u152 u153 u154 u155 u156 u157 u158 u159 u160 u161 u162 u163 u164 u165 u166 u167 u168 u169 u170 u171 u172 u173 u174 u175 u176 u177 u178 u179 u180 u181 u182 u183 u184 u185 u186 u187 u188 u189 u190 u191 u192 u193 u194 u195 u196 u197 u198 u199 u200 u201 u202 u203 u204 u205 u206 u207 u208 u209 u210 u211 u212 u213 u214 u215 u216 u217 u218 u219 u220 u221 u222 u223 u224 u225 u226 u227 u228 u229 u230 u231 u232 u233 u234 u235 u236 u237 u238 u239 u240 u241 u242 u243 u244 u245 u246 u247 u248 u249 u250 u251 u252 u253 u254 u255 u256 u257 u258 u259 u260 u261 u262 u263 u264 u265 u266 u267 u268 u269 u270 u271 u272 u273 u274 u275 u276 u277 u278 u279 u280 u281 u282 u283 u284 u285 u286 u287 u288 u289 u290 u291 u292 u293 u294 u295 u296 u297 u298 u299 u300 u301 u302 u303 u304 u305 u306 u307 u308 u309 u310 u311 u312 u313 u314 u315 u316 u317 u318 u319 u320 u321 u322 u323 u324 u325 u326 u327 u328 u329 u330 u331 u332 u333 u334 u335 u336 u337 u338 u339 u340 u341 u342 u343 u344 u345 u346 u347 u348 u349 u350 u351 u352 u353 u354 u355 u356 u357 u358 u359 u360 u361 u362 u363 u364 u365 u366 u367 : Value)
    (hM : Mem w0 wr B gA gT gf gb cA cT R cf cb A T F G) (hfh : fl + n ≤ fh) (hth : tl + m ≤ th) (hA : fh ≤ A.length) (hT : th ≤ T.length) (hAL : A.length ≤ 65536) (hTL : T.length ≤ 65536) (hd : d ≤ 65537) (hx : x ≤ n + d) (hy : y ≤ m + d)
    (Q0 : Exit → Act → World → Prop)
    (hX : ∀ (X Y : Nat) (v130 v131 v132 v133 v134 v135 v136 v137 v138 v139 v140 v141 v142 v143 v144 v145 v146 v147 v148 v149 v150 v151 v152 v153 v154 v155 v156 v157 v158 v159 v160 v161 v162 : Value) (wx : World), X ≤ n + d → Y ≤ m + d → (∃ j, X = x + j ∧ Y = y + j ∧ Run (eqA A T fl tl n m) x y j ∧ eqA A T fl tl n m X Y = false) → Mem w0 wx B gA gT gf gb cA cT R cf cb A T F G → Q0 (.exit 4) ⟨List.toArray (.pointer (some ⟨B, 0, none⟩) :: .int .i64 (fl : Int) :: .int .i64 (fh : Int) :: .int .i64 (tl : Int) :: .int .i64 (th : Int) :: u5 :: u6 :: u7 :: u8 :: u9 :: u10 :: u11 :: u12 :: u13 :: .int .i64 (n : Int) :: .int .i64 (m : Int) :: u16 :: u17 :: u18 :: u19 :: u20 :: u21 :: u22 :: u23 :: .int .i64 (X : Int) :: .int .i64 (Y : Int) :: u26 :: u27 :: u28 :: u29 :: u30 :: u31 :: u32 :: u33 :: u34 :: u35 :: u36 :: u37 :: u38 :: u39 :: u40 :: u41 :: u42 :: u43 :: u44 :: u45 :: u46 :: u47 :: u48 :: u49 :: u50 :: u51 :: u52 :: u53 :: u54 :: u55 :: u56 :: u57 :: u58 :: u59 :: u60 :: u61 :: u62 :: u63 :: u64 :: u65 :: u66 :: u67 :: u68 :: u69 :: u70 :: u71 :: u72 :: u73 :: u74 :: u75 :: u76 :: u77 :: u78 :: u79 :: u80 :: u81 :: u82 :: u83 :: u84 :: u85 :: u86 :: u87 :: u88 :: u89 :: u90 :: u91 :: u92 :: u93 :: u94 :: u95 :: u96 :: u97 :: u98 :: u99 :: u100 :: u101 :: u102 :: u103 :: u104 :: u105 :: u106 :: u107 :: u108 :: u109 :: u110 :: u111 :: u112 :: u113 :: u114 :: u115 :: u116 :: u117 :: u118 :: u119 :: u120 :: u121 :: u122 :: u123 :: u124 :: u125 :: u126 :: u127 :: u128 :: u129 :: v130 :: v131 :: v132 :: v133 :: v134 :: v135 :: v136 :: v137 :: v138 :: v139 :: v140 :: v141 :: v142 :: v143 :: v144 :: v145 :: v146 :: v147 :: v148 :: v149 :: v150 :: v151 :: v152 :: v153 :: v154 :: v155 :: v156 :: v157 :: v158 :: v159 :: v160 :: v161 :: v162 :: u163 :: u164 :: u165 :: u166 :: u167 :: u168 :: u169 :: u170 :: u171 :: u172 :: u173 :: u174 :: u175 :: u176 :: u177 :: u178 :: u179 :: u180 :: u181 :: u182 :: u183 :: u184 :: u185 :: u186 :: u187 :: u188 :: u189 :: u190 :: u191 :: u192 :: u193 :: u194 :: u195 :: u196 :: u197 :: u198 :: u199 :: u200 :: u201 :: u202 :: u203 :: u204 :: u205 :: u206 :: u207 :: u208 :: u209 :: u210 :: u211 :: u212 :: u213 :: u214 :: u215 :: u216 :: u217 :: u218 :: u219 :: u220 :: u221 :: u222 :: u223 :: u224 :: u225 :: u226 :: u227 :: u228 :: u229 :: u230 :: u231 :: u232 :: u233 :: u234 :: u235 :: u236 :: u237 :: u238 :: u239 :: u240 :: u241 :: u242 :: u243 :: u244 :: u245 :: u246 :: u247 :: u248 :: u249 :: u250 :: u251 :: u252 :: u253 :: u254 :: u255 :: u256 :: u257 :: u258 :: u259 :: u260 :: u261 :: u262 :: u263 :: u264 :: u265 :: u266 :: u267 :: u268 :: u269 :: u270 :: u271 :: u272 :: u273 :: u274 :: u275 :: u276 :: u277 :: u278 :: u279 :: u280 :: u281 :: u282 :: u283 :: u284 :: u285 :: u286 :: u287 :: u288 :: u289 :: u290 :: u291 :: u292 :: u293 :: u294 :: u295 :: u296 :: u297 :: u298 :: u299 :: u300 :: u301 :: u302 :: u303 :: u304 :: u305 :: u306 :: u307 :: u308 :: u309 :: u310 :: u311 :: u312 :: u313 :: u314 :: u315 :: u316 :: u317 :: u318 :: u319 :: u320 :: u321 :: u322 :: u323 :: u324 :: u325 :: u326 :: u327 :: u328 :: u329 :: u330 :: u331 :: u332 :: u333 :: u334 :: u335 :: u336 :: u337 :: u338 :: u339 :: u340 :: u341 :: u342 :: u343 :: u344 :: u345 :: u346 :: u347 :: u348 :: u349 :: u350 :: u351 :: u352 :: u353 :: u354 :: u355 :: u356 :: u357 :: u358 :: u359 :: u360 :: u361 :: u362 :: u363 :: u364 :: u365 :: u366 :: u367 :: List.nil), []⟩ wx) :
    Code.wp Try.prog ((Try.f15.body.bind (inB 4)).getD .skip) Q0 ⟨List.toArray (.pointer (some ⟨B, 0, none⟩) :: .int .i64 (fl : Int) :: .int .i64 (fh : Int) :: .int .i64 (tl : Int) :: .int .i64 (th : Int) :: u5 :: u6 :: u7 :: u8 :: u9 :: u10 :: u11 :: u12 :: u13 :: .int .i64 (n : Int) :: .int .i64 (m : Int) :: u16 :: u17 :: u18 :: u19 :: u20 :: u21 :: u22 :: u23 :: .int .i64 (x : Int) :: .int .i64 (y : Int) :: u26 :: u27 :: u28 :: u29 :: u30 :: u31 :: u32 :: u33 :: u34 :: u35 :: u36 :: u37 :: u38 :: u39 :: u40 :: u41 :: u42 :: u43 :: u44 :: u45 :: u46 :: u47 :: u48 :: u49 :: u50 :: u51 :: u52 :: u53 :: u54 :: u55 :: u56 :: u57 :: u58 :: u59 :: u60 :: u61 :: u62 :: u63 :: u64 :: u65 :: u66 :: u67 :: u68 :: u69 :: u70 :: u71 :: u72 :: u73 :: u74 :: u75 :: u76 :: u77 :: u78 :: u79 :: u80 :: u81 :: u82 :: u83 :: u84 :: u85 :: u86 :: u87 :: u88 :: u89 :: u90 :: u91 :: u92 :: u93 :: u94 :: u95 :: u96 :: u97 :: u98 :: u99 :: u100 :: u101 :: u102 :: u103 :: u104 :: u105 :: u106 :: u107 :: u108 :: u109 :: u110 :: u111 :: u112 :: u113 :: u114 :: u115 :: u116 :: u117 :: u118 :: u119 :: u120 :: u121 :: u122 :: u123 :: u124 :: u125 :: u126 :: u127 :: u128 :: u129 :: u130 :: u131 :: u132 :: u133 :: u134 :: u135 :: u136 :: u137 :: u138 :: u139 :: u140 :: u141 :: u142 :: u143 :: u144 :: u145 :: u146 :: u147 :: u148 :: u149 :: u150 :: u151 :: u152 :: u153 :: u154 :: u155 :: u156 :: u157 :: u158 :: u159 :: u160 :: u161 :: u162 :: u163 :: u164 :: u165 :: u166 :: u167 :: u168 :: u169 :: u170 :: u171 :: u172 :: u173 :: u174 :: u175 :: u176 :: u177 :: u178 :: u179 :: u180 :: u181 :: u182 :: u183 :: u184 :: u185 :: u186 :: u187 :: u188 :: u189 :: u190 :: u191 :: u192 :: u193 :: u194 :: u195 :: u196 :: u197 :: u198 :: u199 :: u200 :: u201 :: u202 :: u203 :: u204 :: u205 :: u206 :: u207 :: u208 :: u209 :: u210 :: u211 :: u212 :: u213 :: u214 :: u215 :: u216 :: u217 :: u218 :: u219 :: u220 :: u221 :: u222 :: u223 :: u224 :: u225 :: u226 :: u227 :: u228 :: u229 :: u230 :: u231 :: u232 :: u233 :: u234 :: u235 :: u236 :: u237 :: u238 :: u239 :: u240 :: u241 :: u242 :: u243 :: u244 :: u245 :: u246 :: u247 :: u248 :: u249 :: u250 :: u251 :: u252 :: u253 :: u254 :: u255 :: u256 :: u257 :: u258 :: u259 :: u260 :: u261 :: u262 :: u263 :: u264 :: u265 :: u266 :: u267 :: u268 :: u269 :: u270 :: u271 :: u272 :: u273 :: u274 :: u275 :: u276 :: u277 :: u278 :: u279 :: u280 :: u281 :: u282 :: u283 :: u284 :: u285 :: u286 :: u287 :: u288 :: u289 :: u290 :: u291 :: u292 :: u293 :: u294 :: u295 :: u296 :: u297 :: u298 :: u299 :: u300 :: u301 :: u302 :: u303 :: u304 :: u305 :: u306 :: u307 :: u308 :: u309 :: u310 :: u311 :: u312 :: u313 :: u314 :: u315 :: u316 :: u317 :: u318 :: u319 :: u320 :: u321 :: u322 :: u323 :: u324 :: u325 :: u326 :: u327 :: u328 :: u329 :: u330 :: u331 :: u332 :: u333 :: u334 :: u335 :: u336 :: u337 :: u338 :: u339 :: u340 :: u341 :: u342 :: u343 :: u344 :: u345 :: u346 :: u347 :: u348 :: u349 :: u350 :: u351 :: u352 :: u353 :: u354 :: u355 :: u356 :: u357 :: u358 :: u359 :: u360 :: u361 :: u362 :: u363 :: u364 :: u365 :: u366 :: u367 :: List.nil), []⟩ wr := by
  conv => arg 2; whnf
  have HM : Hid (Mem w0 wr B gA gT gf gb cA cT R cf cb A T F G) := hM
  clear hM
  go_loopw [24, 25] (fun v24 v25 wr => ∃ X Y : Nat, X ≤ n + d ∧ Y ≤ m + d ∧ v24 = .int .i64 (X : Int) ∧ v25 = .int .i64 (Y : Int) ∧ Hid (∃ j, X = x + j ∧ Y = y + j ∧ Run (eqA A T fl tl n m) x y j) ∧ Hid (Mem w0 wr B gA gT gf gb cA cT R cf cb A T F G)) (fun v24 _ _ => n - (intOf v24).toNat)
  case atStart => exact ⟨x, y, hx, hy, rfl, rfl, ⟨0, rfl, rfl, fun i hi => absurd hi (by omega)⟩, HM⟩
  case round =>
      clear HM
      obtain ⟨X, Y, hX1, hY1, rfl, rfl, HJ, HM⟩ := hrel
      by_cases c1 : X < n
      · have b1 : decide (X < n) = true := by simpa using c1
        by_cases c2 : Y < m
        · have b2 : decide (Y < m) = true := by simpa using c2
          have t0 := HM.out.s0
          have t1 := HM.out.s1
          obtain ⟨ia, hia⟩ : ∃ ia, ia = fl + X := ⟨_, rfl⟩
          obtain ⟨ib, hib⟩ : ∃ ib, ib = tl + Y := ⟨_, rfl⟩
          have w1 : IntKind.i64.wrap ((fl : Int) + (X : Int)) = (ia : Int) := by rw [IntWalk.i64_in _ ⟨by omega, by omega⟩]; omega
          have w2 : IntKind.i64.wrap ((tl : Int) + (Y : Int)) = (ib : Int) := by rw [IntWalk.i64_in _ ⟨by omega, by omega⟩]; omega
          have q1 : (ia : Int) < (A.length : Int) := by omega
          have q2 : (ib : Int) < (T.length : Int) := by omega
          have q3 : (0 : Int) ≤ (ia : Int) := by omega
          have q4 : (0 : Int) ≤ (ib : Int) := by omega
          have t2 := HM.out.a ia (by omega)
          have t3 := HM.out.t ib (by omega)
          by_cases c3 : lineAt A ia = lineAt T ib
          · have HI : Hid (∃ j, X + 1 = x + j ∧ Y + 1 = y + j ∧ Run (eqA A T fl tl n m) x y j) := by
              obtain ⟨j, h1, h2, h3⟩ := HJ.out
              refine ⟨j + 1, by omega, by omega, fun i hi => ?_⟩
              by_cases hij : i = j
              · subst hij
                have e1 : x + i < n := by omega
                have e2 : y + i < m := by omega
                rw [hia, hib, h1, h2] at c3
                simp [eqA, e1, e2, c3]
              · exact h3 i (by omega)
            have c4 : ((lineAt A ia).toList == (lineAt T ib).toList) = true := by rw [c3]; simp
            clear hia hib c3
            go_wp2_with fail
            refine wp_region_quiet_lit (by kernel_rfl) (by kernel_rfl) ?_
            repeat (with_reducible refine wpQuiet_step (fun K hK => ?_); go_simp; with_reducible refine hK _ ?_; clear hK K)
            with_reducible refine wpQuiet_nil ?_
            intro _ hw1
            obtain ⟨nq, hw2⟩ := hw1
            subst hw2
            go_wp2_with fail
            go_roundw
            case rel => exact ⟨X + 1, Y + 1, by omega, by omega, by go_num, by go_num, HI, HM.out.drewN _⟩
            case measure => simp [intOf]; omega
          · have HE : Hid (∃ j, X = x + j ∧ Y = y + j ∧ Run (eqA A T fl tl n m) x y j ∧ eqA A T fl tl n m X Y = false) := by
              obtain ⟨j, h1, h2, h3⟩ := HJ.out
              refine ⟨j, h1, h2, h3, ?_⟩
              rw [hia, hib] at c3
              simp [eqA, c3]
            have c4 : ((lineAt A ia).toList == (lineAt T ib).toList) = false := (Go.Lib.bytes_beq_false_iff _ _).2 c3
            clear hia hib c3
            go_wp2_with fail
            refine wp_region_quiet_lit (by kernel_rfl) (by kernel_rfl) ?_
            repeat (with_reducible refine wpQuiet_step (fun K hK => ?_); go_simp; with_reducible refine hK _ ?_; clear hK K)
            with_reducible refine wpQuiet_nil ?_
            intro _ hw1
            obtain ⟨nq, hw2⟩ := hw1
            subst hw2
            go_wp2_with fail
            exact hX X Y _ _ _ _ _ _ _ _ _ _ _ _ _ _ _ _ _ _ _ _ _ _ _ _ _ _ _ _ _ _ _ _ _ _ hX1 hY1 HE.out (HM.out.drewN _)
        · have b2 : decide (Y < m) = false := by simpa using c2
          have HE : Hid (∃ j, X = x + j ∧ Y = y + j ∧ Run (eqA A T fl tl n m) x y j ∧ eqA A T fl tl n m X Y = false) := by
            obtain ⟨j, h1, h2, h3⟩ := HJ.out
            exact ⟨j, h1, h2, h3, (eqA_box A T fl tl n m).fy _ (by omega)⟩
          go_wp2_with fail
          refine wp_region_quiet_lit (by kernel_rfl) (by kernel_rfl) ?_
          repeat (with_reducible refine wpQuiet_step (fun K hK => ?_); go_simp; with_reducible refine hK _ ?_; clear hK K)
          with_reducible refine wpQuiet_nil ?_
          intro _ hw1
          obtain ⟨nq, hw2⟩ := hw1
          subst hw2
          go_wp2_with fail
          exact hX X Y _ _ _ _ _ _ _ _ _ _ _ _ _ _ _ _ _ _ _ _ _ _ _ _ _ _ _ _ _ _ _ _ _ _ hX1 hY1 HE.out (HM.out.drewN _)
      · have b1 : decide (X < n) = false := by simpa using c1
        have HE : Hid (∃ j, X = x + j ∧ Y = y + j ∧ Run (eqA A T fl tl n m) x y j ∧ eqA A T fl tl n m X Y = false) := by
          obtain ⟨j, h1, h2, h3⟩ := HJ.out
          exact ⟨j, h1, h2, h3, (eqA_box A T fl tl n m).fx _ (by omega)⟩
        go_wp2_with fail
        refine wp_region_quiet_lit (by kernel_rfl) (by kernel_rfl) ?_
        repeat (with_reducible refine wpQuiet_step (fun K hK => ?_); go_simp; with_reducible refine hK _ ?_; clear hK K)
        with_reducible refine wpQuiet_nil ?_
        intro _ hw1
        obtain ⟨nq, hw2⟩ := hw1
        subst hw2
        go_wp2_with fail
        exact hX X Y _ _ _ _ _ _ _ _ _ _ _ _ _ _ _ _ _ _ _ _ _ _ _ _ _ _ _ _ _ _ _ _ _ _ hX1 hY1 HE.out (HM.out.drewN _)
end Go.Proofs.Qxb6602567a.Ms
