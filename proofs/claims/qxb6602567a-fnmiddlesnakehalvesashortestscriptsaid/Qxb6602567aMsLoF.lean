/- One step of the search: all diagonals. -/
import Derived.Test.Qxb6602567aMsReF
namespace Go.Proofs.Qxb6602567a.Ms
open Go Go.RowKit
set_option linter.unusedVariables false

set_option maxHeartbeats 8000000 in
set_option maxRecDepth 100000 in
theorem loopF (w0 wr : World) (B gA gT gf gb cA cT R cf cb fl fh tl th n m at0 d : Nat) (odd : Bool) (A T : List ByteArray) (F0 G : List Int) (u5 u6 u7 u8 u9 u10 u11 u12 u13 u18 u24 u25 u26 u27 u28 u29 u30 u31 u32 u33 u34 u35 u36 u37 u38 u39 u40 u41 u42 u43 u44 u45 u46 u47 u48 u49 u50 u51 u52 u53 u54 u55 u56 u57 u58 u59 u60 u61 u62 u63 u64 u65 u66 u67 u68 u69 u70 u71 u72 u73 u74 u75 u76 u77 u78 u79 u80 u81 u82 u83 u84 u85 u86 u87 u88 u89 u90 u91 u92 u93 u94 u95 u96 u97 u98 u99 u100 u101 u102 u103 u104 u105 u106 u107 u108 u109 u110 u111 u112 u113 u114 u115 u116 u117 u118 u119 u120 u121 u122 u123 u124 u125 u126 u127 u128 u129 u130 u131 u132 u133 u134 u135 u136 u137 u138 u139 u140 u141 u142 u143 u144 u145 u146 u147 u148 u149 u150 u151 u152 u153 u154 u155 u156 u157 u158 u159 u160 u161 u162 u163 u164 u165 u166 u167 u168 u169 u170 u171 u172 u173 u174 u175 u176 u177 u178 u179 u180 u181 u182 u183 u184 u185 u186 u187 u188 u189 u190 u191 u192 u193 u194 u195 u196 u197 u198 u199 u200 u201 u202 u203 u204 u205 u206 u207 u208 u209 u210 u211 u212 u213 u214 u215 u216 u217 u218 u219 u220 u221 u222 u223 u224 u225 u226 u227 u228 u229 u230 u231 u232 u233 u234 u235 u236 u237 u238 u239 u240 u241 u242 u243 u244 u245 u246 u247 u248 u249 u250 u251 u252 u253 u254 u255 u256 u257 u258 u259 u260 u261 u262 u263 u264 u265 u266 u267 u268 u269 u270 u271 u272 u273 u274 u275 u276 u277 u278 u279 u280 u281 u282 u283 u284 u285 u286 u287 u288 u289 u290 u291 u292 u293 u294 u295 u296 u297 u298 u299 u300 u301 u302 u303 u304 u305 u306 u307 u308 u309 u310 u311 u312 u313 u314 u315 u316 u317 u318 u319 u320 u321 u322 u323 u324 u325 u326 u327 u328 u329 u330 u331 u332 u333 u334 u335 u336 u337 u338 u339 u340 u341 u342 u343 u344 u345 u346 u347 u348 u349 u350 u351 u352 u353 u354 u355 u356 u357 u358 u359 u360 u361 u362 u363 u364 u365 u366 u367 : Value)
    (hM : Mem w0 wr B gA gT gf gb cA cT R cf cb A T F0 G) (hodd : odd = decide ((n + m) % 2 = 1)) (hfh : fh = fl + n) (hth : th = tl + m) (hA : fh ≤ A.length) (hT : th ≤ T.length) (hAL : A.length ≤ 65536) (hTL : T.length ≤ 65536) (hd : d < at0) (hat : at0 ≤ 65538) (hR : at0 + at0 < R) (hRm : R ≤ 131076)
    (hF : Pre (eqA A T fl tl n m) at0 d F0) (hG : 1 ≤ d → Fw (eqB A T fh th n m) at0 (d - 1) G) (hD : 2 * d ≤ Dst (eqA A T fl tl n m) n m + 1)
    (Q0 : Exit → Act → World → Prop)
    (hRet : ∀ (t : Array Value) (wx : World) (x y j : Nat), t.getD 10 undef = .int .i64 ((fl : Int) + (x : Int)) → t.getD 11 undef = .int .i64 ((tl : Int) + (y : Int)) → t.getD 12 undef = .int .i64 ((fl : Int) + ((x + j : Nat) : Int)) → t.getD 13 undef = .int .i64 ((tl : Int) + ((y + j : Nat) : Int)) → Cuts (eqA A T fl tl n m) (eqB A T fh th n m) n m x y j → Below w0.heap.size w0 wx → Q0 .ret ⟨t, []⟩ wx)
    (hX : ∀ (v10 v11 v12 v13 v23 v24 v25 v26 v27 v28 v79 v80 v81 v82 v83 v84 v85 v86 v87 v88 v89 v90 v91 v92 v93 v94 v95 v96 v97 v98 v99 v100 v101 v102 v103 v104 v105 v106 v107 v108 v109 v110 v111 v112 v113 v114 v115 v116 v117 v118 v119 v120 v121 v122 v123 v124 v125 v126 v127 v128 v129 v130 v131 v132 v133 v134 v135 v136 v137 v138 v139 v140 v141 v142 v143 v144 v145 v146 v147 v148 v149 v150 v151 v152 v153 v154 v155 v156 v157 v158 v159 v160 v161 v162 v163 v164 v165 v166 v167 v168 v169 v170 v171 v172 v173 v174 v175 v176 v177 v178 v179 v180 v181 v182 v183 v184 v185 v186 v187 v188 v189 v190 v191 v192 v193 v194 v195 v196 v197 v198 v199 v200 v201 v202 v203 v204 v205 v206 v207 v208 v209 : Value) (wx : World) (F : List Int), Mem w0 wx B gA gT gf gb cA cT R cf cb A T F G → Fw (eqA A T fl tl n m) at0 d F → (odd = true → NoM n m at0 d (d + 1) ((d : Int) - 1) F G) → Q0 (.exit 2) ⟨List.toArray (.pointer (some ⟨B, 0, none⟩) :: .int .i64 (fl : Int) :: .int .i64 (fh : Int) :: .int .i64 (tl : Int) :: .int .i64 (th : Int) :: u5 :: u6 :: u7 :: u8 :: u9 :: v10 :: v11 :: v12 :: v13 :: .int .i64 (n : Int) :: .int .i64 (m : Int) :: .int .i64 ((n : Int) - (m : Int)) :: .bool odd :: u18 :: .int .i64 (at0 : Int) :: .slice (some ⟨gf, 0, none⟩) R cf :: .slice (some ⟨gb, 0, none⟩) R cb :: .int .i64 (d : Int) :: v23 :: v24 :: v25 :: v26 :: v27 :: v28 :: u29 :: u30 :: u31 :: u32 :: u33 :: u34 :: u35 :: u36 :: u37 :: u38 :: u39 :: u40 :: u41 :: u42 :: u43 :: u44 :: u45 :: u46 :: u47 :: u48 :: u49 :: u50 :: u51 :: u52 :: u53 :: u54 :: u55 :: u56 :: u57 :: u58 :: u59 :: u60 :: u61 :: u62 :: u63 :: u64 :: u65 :: u66 :: u67 :: u68 :: u69 :: u70 :: u71 :: u72 :: u73 :: u74 :: u75 :: u76 :: u77 :: u78 :: v79 :: v80 :: v81 :: v82 :: v83 :: v84 :: v85 :: v86 :: v87 :: v88 :: v89 :: v90 :: v91 :: v92 :: v93 :: v94 :: v95 :: v96 :: v97 :: v98 :: v99 :: v100 :: v101 :: v102 :: v103 :: v104 :: v105 :: v106 :: v107 :: v108 :: v109 :: v110 :: v111 :: v112 :: v113 :: v114 :: v115 :: v116 :: v117 :: v118 :: v119 :: v120 :: v121 :: v122 :: v123 :: v124 :: v125 :: v126 :: v127 :: v128 :: v129 :: v130 :: v131 :: v132 :: v133 :: v134 :: v135 :: v136 :: v137 :: v138 :: v139 :: v140 :: v141 :: v142 :: v143 :: v144 :: v145 :: v146 :: v147 :: v148 :: v149 :: v150 :: v151 :: v152 :: v153 :: v154 :: v155 :: v156 :: v157 :: v158 :: v159 :: v160 :: v161 :: v162 :: v163 :: v164 :: v165 :: v166 :: v167 :: v168 :: v169 :: v170 :: v171 :: v172 :: v173 :: v174 :: v175 :: v176 :: v177 :: v178 :: v179 :: v180 :: v181 :: v182 :: v183 :: v184 :: v185 :: v186 :: v187 :: v188 :: v189 :: v190 :: v191 :: v192 :: v193 :: v194 :: v195 :: v196 :: v197 :: v198 :: v199 :: v200 :: v201 :: v202 :: v203 :: v204 :: v205 :: v206 :: v207 :: v208 :: v209 :: u210 :: u211 :: u212 :: u213 :: u214 :: u215 :: u216 :: u217 :: u218 :: u219 :: u220 :: u221 :: u222 :: u223 :: u224 :: u225 :: u226 :: u227 :: u228 :: u229 :: u230 :: u231 :: u232 :: u233 :: u234 :: u235 :: u236 :: u237 :: u238 :: u239 :: u240 :: u241 :: u242 :: u243 :: u244 :: u245 :: u246 :: u247 :: u248 :: u249 :: u250 :: u251 :: u252 :: u253 :: u254 :: u255 :: u256 :: u257 :: u258 :: u259 :: u260 :: u261 :: u262 :: u263 :: u264 :: u265 :: u266 :: u267 :: u268 :: u269 :: u270 :: u271 :: u272 :: u273 :: u274 :: u275 :: u276 :: u277 :: u278 :: u279 :: u280 :: u281 :: u282 :: u283 :: u284 :: u285 :: u286 :: u287 :: u288 :: u289 :: u290 :: u291 :: u292 :: u293 :: u294 :: u295 :: u296 :: u297 :: u298 :: u299 :: u300 :: u301 :: u302 :: u303 :: u304 :: u305 :: u306 :: u307 :: u308 :: u309 :: u310 :: u311 :: u312 :: u313 :: u314 :: u315 :: u316 :: u317 :: u318 :: u319 :: u320 :: u321 :: u322 :: u323 :: u324 :: u325 :: u326 :: u327 :: u328 :: u329 :: u330 :: u331 :: u332 :: u333 :: u334 :: u335 :: u336 :: u337 :: u338 :: u339 :: u340 :: u341 :: u342 :: u343 :: u344 :: u345 :: u346 :: u347 :: u348 :: u349 :: u350 :: u351 :: u352 :: u353 :: u354 :: u355 :: u356 :: u357 :: u358 :: u359 :: u360 :: u361 :: u362 :: u363 :: u364 :: u365 :: u366 :: u367 :: List.nil), []⟩ wx) :
    Code.wp Try.prog ((Try.f15.body.bind (inB 2)).getD .skip) Q0 ⟨List.toArray (.pointer (some ⟨B, 0, none⟩) :: .int .i64 (fl : Int) :: .int .i64 (fh : Int) :: .int .i64 (tl : Int) :: .int .i64 (th : Int) :: u5 :: u6 :: u7 :: u8 :: u9 :: u10 :: u11 :: u12 :: u13 :: .int .i64 (n : Int) :: .int .i64 (m : Int) :: .int .i64 ((n : Int) - (m : Int)) :: .bool odd :: u18 :: .int .i64 (at0 : Int) :: .slice (some ⟨gf, 0, none⟩) R cf :: .slice (some ⟨gb, 0, none⟩) R cb :: .int .i64 (d : Int) :: .int .i64 (-(d : Int)) :: u24 :: u25 :: u26 :: u27 :: u28 :: u29 :: u30 :: u31 :: u32 :: u33 :: u34 :: u35 :: u36 :: u37 :: u38 :: u39 :: u40 :: u41 :: u42 :: u43 :: u44 :: u45 :: u46 :: u47 :: u48 :: u49 :: u50 :: u51 :: u52 :: u53 :: u54 :: u55 :: u56 :: u57 :: u58 :: u59 :: u60 :: u61 :: u62 :: u63 :: u64 :: u65 :: u66 :: u67 :: u68 :: u69 :: u70 :: u71 :: u72 :: u73 :: u74 :: u75 :: u76 :: u77 :: u78 :: u79 :: u80 :: u81 :: u82 :: u83 :: u84 :: u85 :: u86 :: u87 :: u88 :: u89 :: u90 :: u91 :: u92 :: u93 :: u94 :: u95 :: u96 :: u97 :: u98 :: u99 :: u100 :: u101 :: u102 :: u103 :: u104 :: u105 :: u106 :: u107 :: u108 :: u109 :: u110 :: u111 :: u112 :: u113 :: u114 :: u115 :: u116 :: u117 :: u118 :: u119 :: u120 :: u121 :: u122 :: u123 :: u124 :: u125 :: u126 :: u127 :: u128 :: u129 :: u130 :: u131 :: u132 :: u133 :: u134 :: u135 :: u136 :: u137 :: u138 :: u139 :: u140 :: u141 :: u142 :: u143 :: u144 :: u145 :: u146 :: u147 :: u148 :: u149 :: u150 :: u151 :: u152 :: u153 :: u154 :: u155 :: u156 :: u157 :: u158 :: u159 :: u160 :: u161 :: u162 :: u163 :: u164 :: u165 :: u166 :: u167 :: u168 :: u169 :: u170 :: u171 :: u172 :: u173 :: u174 :: u175 :: u176 :: u177 :: u178 :: u179 :: u180 :: u181 :: u182 :: u183 :: u184 :: u185 :: u186 :: u187 :: u188 :: u189 :: u190 :: u191 :: u192 :: u193 :: u194 :: u195 :: u196 :: u197 :: u198 :: u199 :: u200 :: u201 :: u202 :: u203 :: u204 :: u205 :: u206 :: u207 :: u208 :: u209 :: u210 :: u211 :: u212 :: u213 :: u214 :: u215 :: u216 :: u217 :: u218 :: u219 :: u220 :: u221 :: u222 :: u223 :: u224 :: u225 :: u226 :: u227 :: u228 :: u229 :: u230 :: u231 :: u232 :: u233 :: u234 :: u235 :: u236 :: u237 :: u238 :: u239 :: u240 :: u241 :: u242 :: u243 :: u244 :: u245 :: u246 :: u247 :: u248 :: u249 :: u250 :: u251 :: u252 :: u253 :: u254 :: u255 :: u256 :: u257 :: u258 :: u259 :: u260 :: u261 :: u262 :: u263 :: u264 :: u265 :: u266 :: u267 :: u268 :: u269 :: u270 :: u271 :: u272 :: u273 :: u274 :: u275 :: u276 :: u277 :: u278 :: u279 :: u280 :: u281 :: u282 :: u283 :: u284 :: u285 :: u286 :: u287 :: u288 :: u289 :: u290 :: u291 :: u292 :: u293 :: u294 :: u295 :: u296 :: u297 :: u298 :: u299 :: u300 :: u301 :: u302 :: u303 :: u304 :: u305 :: u306 :: u307 :: u308 :: u309 :: u310 :: u311 :: u312 :: u313 :: u314 :: u315 :: u316 :: u317 :: u318 :: u319 :: u320 :: u321 :: u322 :: u323 :: u324 :: u325 :: u326 :: u327 :: u328 :: u329 :: u330 :: u331 :: u332 :: u333 :: u334 :: u335 :: u336 :: u337 :: u338 :: u339 :: u340 :: u341 :: u342 :: u343 :: u344 :: u345 :: u346 :: u347 :: u348 :: u349 :: u350 :: u351 :: u352 :: u353 :: u354 :: u355 :: u356 :: u357 :: u358 :: u359 :: u360 :: u361 :: u362 :: u363 :: u364 :: u365 :: u366 :: u367 :: List.nil), []⟩ wr := by
  conv => arg 2; whnf
  have HODD : Hid (odd = decide ((n + m) % 2 = 1)) := hodd
  have HF : Hid (fh = fl + n ∧ th = tl + m) := ⟨hfh, hth⟩
  have HG : Hid _ := hG
  have HD : Hid (2 * d ≤ Dst (eqA A T fl tl n m) n m + 1) := hD
  have HST : Hid (Mem w0 wr B gA gT gf gb cA cT R cf cb A T F0 G ∧ Pre (eqA A T fl tl n m) at0 d F0) := ⟨hM, hF⟩
  have hnA : fl + n ≤ A.length := by omega
  have hmT : tl + m ≤ T.length := by omega
  clear hodd hfh hth hG hD hM hF
  go_loopw [23] (fun v23 wr => ∃ (i : Nat) (k : Int) (F : List Int), i ≤ d + 1 ∧ k ≤ (d : Int) + 2 ∧ Hid (k = 2 * (i : Int) - d) ∧ v23 = .int .i64 k ∧ Hid (Half (eqA A T fl tl n m) at0 d i F ∧ (odd = true → NoM n m at0 d i ((d : Int) - 1) F G)) ∧ Hid (Mem w0 wr B gA gT gf gb cA cT R cf cb A T F G)) (fun v23 _ => ((d : Int) + 2 - intOf v23).toNat)
  case atStart => exact ⟨0, -(d : Int), F0, by omega, by omega, by show _ = _; omega, rfl, ⟨Half.start HST.out.2, fun _ => NoM.start n m at0 d _ _ _⟩, HST.out.1⟩
  case round =>
    clear HST
    obtain ⟨i, k, F, hid1, hk3, HKI, rfl, HH, HM⟩ := hrel
    have hk1 : -(d : Int) ≤ k := by have := HKI.out; omega
    by_cases hk2 : k ≤ (d : Int)
    · have hid : i ≤ d := by have := HKI.out; omega
      obtain ⟨p, hp⟩ : ∃ p : Nat, (p : Int) = (at0 : Int) + k := ⟨((at0 : Int) + k).toNat, by omega⟩
      obtain ⟨p1, hp1⟩ : ∃ p1 : Nat, (p1 : Int) + 1 = (p : Int) := ⟨p - 1, by omega⟩
      obtain ⟨p2, hp2⟩ : ∃ p2 : Nat, (p2 : Int) = (p : Int) + 1 := ⟨p + 1, by omega⟩
      obtain ⟨bk, hbk⟩ : ∃ bk : Int, bk = (n : Int) - m - k := ⟨_, rfl⟩
      obtain ⟨pb, hpb⟩ : ∃ pb : Nat, pb = ((at0 : Int) + bk).toNat := ⟨_, rfl⟩
      have wP : IntKind.i64.wrap ((at0 : Int) + k) = (p : Int) := by rw [IntWalk.i64_in _ ⟨by omega, by omega⟩]; omega
      have wP1 : IntKind.i64.wrap ((p : Int) - 1) = (p1 : Int) := by rw [IntWalk.i64_in _ ⟨by omega, by omega⟩]; omega
      have wP2 : IntKind.i64.wrap ((p : Int) + 1) = (p2 : Int) := by rw [IntWalk.i64_in _ ⟨by omega, by omega⟩]; omega
      have wN : IntKind.i64.wrap (-(d : Int)) = -(d : Int) := by rw [IntWalk.i64_in _ ⟨by omega, by omega⟩]
      have hpR1 : (p1 : Int) < (R : Int) := by omega
      have hpR2 : (p2 : Int) < (R : Int) := by omega
      have hp10 : (0 : Int) ≤ (p1 : Int) := by omega
      have hp20 : (0 : Int) ≤ (p2 : Int) := by omega
      obtain ⟨a1, ha1⟩ : ∃ a1, a1 = ig F p1 := ⟨_, rfl⟩
      obtain ⟨a2, ha2⟩ : ∃ a2, a2 = ig F p2 := ⟨_, rfl⟩
      have t1 := HM.out.cellF (i := p1) (by omega)
      have t2 := HM.out.cellF (i := p2) (by omega)
      rw [← ha1] at t1
      rw [← ha2] at t2
      have HP : Hid ((p : Int) = (at0 : Int) + k) := hp
      have HP1 : Hid ((p1 : Int) + 1 = (at0 : Int) + (2 * (i : Int) - d)) := by show _ = _; have := HKI.out; omega
      have HP2 : Hid ((p2 : Int) = (at0 : Int) + (2 * (i : Int) - d) + 1) := by show _ = _; have := HKI.out; omega
      have HPB : Hid (-((d : Int) - 1) ≤ bk → bk ≤ (d : Int) - 1 → (pb : Int) = (at0 : Int) + bk) := fun g1 g2 => by omega
      have HPB2 : Hid (-((d : Int) - 1) ≤ (n : Int) - m - k → (n : Int) - m - k ≤ (d : Int) - 1 → ((at0 : Int) + ((n : Int) - m - k)).toNat = pb) := fun g1 g2 => by rw [hpb, hbk]
      have HA1 : Hid (a1 = ig F p1 ∧ a2 = ig F p2) := ⟨ha1, ha2⟩
      have HBKE : Hid (bk = (n : Int) - m - k) := hbk
      clear hp hp1 hp2 hpb ha1 ha2
      subst hbk
      by_cases c1 : k = -(d : Int)
      · have b1 : (k == -(d : Int)) = true := by rw [beq_iff_eq]; exact c1
        have hi0 : i = 0 := by have := HKI.out; omega
        have hs := HH.out.1.down hid hd p1 p2 HP1.out HP2.out (.inl hi0)
        rw [← HA1.out.2] at hs
        clear hi0 c1
        obtain ⟨x, y, hv, hk, hxy, hsa, hsb⟩ := hs
        have hrx := (eqA_box A T fl tl n m).reach hxy
        obtain ⟨hrx1, hrx2⟩ := hrx
        have HV : Hid (a2 = (x : Int)) := hv
        have HXY : Hid (Dst (eqA A T fl tl n m) x y ≤ d) := hxy
        have HKX : Hid (2 * (i : Int) - d = (x : Int) - y) := hk
        have HSA : Hid (2 * (i : Int) - d = -(d : Int) ∨ ∃ a : Int, 0 < d ∧ Fz (eqA A T fl tl n m) (d - 1) (2 * (i : Int) - d - 1) a ∧ a + 1 ≤ x) := hsa
        have HSB : Hid (2 * (i : Int) - d = (d : Int) ∨ ∃ b : Int, 0 < d ∧ Fz (eqA A T fl tl n m) (d - 1) (2 * (i : Int) - d + 1) b ∧ b ≤ x) := hsb
        clear hv hxy hk hsa hsb
        go_wp2_with fail
        refine wp_region_quiet_lit (by kernel_rfl) (by kernel_rfl) ?_
        repeat (with_reducible refine wpQuiet_step (fun K hK => ?_); go_simp; (first | with_reducible refine hK _ ?_ | (simp only [undef, reduceCtorEq, ↓reduceIte]; with_reducible refine hK _ ?_)); clear hK K)
        with_reducible refine wpQuiet_nil ?_
        intro _ hw1
        obtain ⟨nq, hw2⟩ := hw1
        subst hw2
        go_upto_region 18 with fail
        rename_i Kx hKx
        rw [HV.out]
        refine restF w0 (wr.drewN nq) B gA gT gf gb cA cT R cf cb fl fh tl th n m at0 d x y p pb k ((n : Int) - m - k) odd A T F G _ _ _ _ _ _ _ _ _ _ _ _ _ _ _ _ _ _ _ _ _ _ _ _ _ _ _ _ _ _ _ _ _ _ _ _ _ _ _ _ _ _ _ _ _ _ _ _ _ _ _ _ _ _ _ _ _ _ _ _ _ _ _ _ _ _ _ _ _ _ _ _ _ _ _ _ _ _ _ _ _ _ _ _ _ _ _ _ _ _ _ _ _ _ _ _ _ _ _ _ _ _ _ _ _ _ _ _ _ _ _ _ _ _ _ _ _ _ _ _ _ _ _ _ _ _ _ _ _ _ _ _ _ _ _ _ _ _ _ _ _ _ _ _ _ _ _ _ _ _ _ _ _ _ _ _ _ _ _ _ _ _ _ _ _ _ _ _ _ _ _ _ _ _ _ _ _ _ _ _ _ _ _ _ _ _ _ _ _ _ _ _ _ _ _ _ _ _ _ _ _ _ _ _ _ _ _ _ _ _ _ _ _ _ _ _ _ _ _ _ _ _ _ _ _ _ _ _ _ _ _ _ _ _ _ _ _ _ _ _ _ _ _ _ _ _ _ _ _ _ _ _ _ _ _ _ _ _ _ _ _ _ _ _ _ _ _ _ _ _ _ _ _ _ _ _ _ _ _ _ _ _ _ _ _ _ _ _ _ _ _ _ _ _ _ _ _ _ _ _ _ _ _ _ _ _ _ _ _ _ _ _ _ _ _ _ _ _ _ _ _ _ _ _ _ _ _ _ _ _ _ _ _ _ _ _ _ _ _ _ _ _ _ _ _ _ _ _ _ _ _ _ _ (HM.out.drewN nq) HODD.out HF.out.1 HF.out.2 hA hT hAL hTL hd hat (Nat.le_of_lt hR) hRm (by rw [HKI.out]; exact HKX.out) hk1 hk2 (by have := HKI.out; omega) HP.out rfl HPB.out HXY.out (by rw [HKI.out]; exact HSA.out) (by rw [HKI.out]; exact HSB.out) HG.out HD.out _ Kx hKx (fun t wx x y j g1 g2 g3 g4 g5 g6 => hRet t wx x y j g1 g2 g3 g4 g5 g6) ?_
        intro v24 v25 v26 v27 v28 v125 v126 v127 v128 v129 v130 v131 v132 v133 v134 v135 v136 v137 v138 v139 v140 v141 v142 v143 v144 v145 v146 v147 v148 v149 v150 v151 v152 v153 v154 v155 v156 v157 v158 v159 v160 v161 v162 v163 v164 v165 v166 v167 v168 v169 v170 v171 v172 v173 v174 v175 v176 v177 v178 v179 v180 v181 v182 v183 v184 v185 v186 v187 v188 v189 v190 v191 v192 v193 v194 v195 v196 v197 wx v hm hz hnm
        have HN : Hid (Half (eqA A T fl tl n m) at0 d (i + 1) (F.set p v) ∧ (odd = true → NoM n m at0 d (i + 1) ((d : Int) - 1) (F.set p v) G)) := ⟨HH.out.1.next hid hd (by have := HM.out.lenF; omega) (by rw [← HKI.out]; exact hz) p (by have := HP.out; have := HKI.out; omega), fun ho => (HH.out.2 ho).next hid hd (by have := HM.out.lenF; omega) p (by have := HP.out; have := HKI.out; omega) (fun g1 g2 => by have e1 := HKI.out; rw [← e1] at g1 g2 ⊢; have g3 := hnm ho g1 g2; rw [HPB2.out g1 g2]; exact g3)⟩
        have HM4 : Hid (Mem w0 wx B gA gT gf gb cA cT R cf cb A T (F.set p v) G) := hm
        clear hm hz hnm
        go_wp2_with fail
        go_roundw
        case rel => first | exact ⟨i + 1, k + 2, F.set p v, by omega, by omega, by show _ = _; have := HKI.out; omega, by go_num, HN, HM4⟩ | ((repeat apply Exists.intro); exact ⟨⟨i + 1, k + 2, F.set p v, by omega, by omega, by show _ = _; have := HKI.out; omega, by go_num, HN, HM4⟩, rfl⟩)
        case measure => simp [intOf]; omega
      · have b1 : (k == -(d : Int)) = false := by rw [beq_eq_false_iff_ne]; exact c1
        have hi0 : 0 < i := by have := HKI.out; omega
        by_cases c2 : k = (d : Int)
        · have b2 : (k != (d : Int)) = false := by rw [bne_eq_false_iff_eq]; exact c2
          have hie : i = d := by have := HKI.out; omega
          have hs := HH.out.1.right hid hd p1 p2 HP1.out HP2.out hi0 (.inl hie)
          rw [← HA1.out.1] at hs
          clear hie c2 c1
          obtain ⟨x, y, hv, hk, hxy, hsa, hsb⟩ := hs
          have hrx := (eqA_box A T fl tl n m).reach hxy
          obtain ⟨hrx1, hrx2⟩ := hrx
          have HV : Hid (a1 + 1 = (x : Int)) := hv
          have HXY : Hid (Dst (eqA A T fl tl n m) x y ≤ d) := hxy
          have HKX : Hid (2 * (i : Int) - d = (x : Int) - y) := hk
          have HSA : Hid (2 * (i : Int) - d = -(d : Int) ∨ ∃ a : Int, 0 < d ∧ Fz (eqA A T fl tl n m) (d - 1) (2 * (i : Int) - d - 1) a ∧ a + 1 ≤ x) := hsa
          have HSB : Hid (2 * (i : Int) - d = (d : Int) ∨ ∃ b : Int, 0 < d ∧ Fz (eqA A T fl tl n m) (d - 1) (2 * (i : Int) - d + 1) b ∧ b ≤ x) := hsb
          clear hv hxy hk hsa hsb
          have wX : IntKind.i64.wrap (a1 + 1) = (x : Int) := by have := HV.out; rw [IntWalk.i64_in _ ⟨by omega, by omega⟩]; omega
          go_wp2_with fail
          refine wp_region_quiet_lit (by kernel_rfl) (by kernel_rfl) ?_
          repeat (with_reducible refine wpQuiet_step (fun K hK => ?_); go_simp; (first | with_reducible refine hK _ ?_ | (simp only [undef, reduceCtorEq, ↓reduceIte]; with_reducible refine hK _ ?_)); clear hK K)
          with_reducible refine wpQuiet_nil ?_
          intro _ hw1
          obtain ⟨nq, hw2⟩ := hw1
          subst hw2
          go_upto_region 18 with fail
          rename_i Kx hKx
          refine restF w0 (wr.drewN nq) B gA gT gf gb cA cT R cf cb fl fh tl th n m at0 d x y p pb k ((n : Int) - m - k) odd A T F G _ _ _ _ _ _ _ _ _ _ _ _ _ _ _ _ _ _ _ _ _ _ _ _ _ _ _ _ _ _ _ _ _ _ _ _ _ _ _ _ _ _ _ _ _ _ _ _ _ _ _ _ _ _ _ _ _ _ _ _ _ _ _ _ _ _ _ _ _ _ _ _ _ _ _ _ _ _ _ _ _ _ _ _ _ _ _ _ _ _ _ _ _ _ _ _ _ _ _ _ _ _ _ _ _ _ _ _ _ _ _ _ _ _ _ _ _ _ _ _ _ _ _ _ _ _ _ _ _ _ _ _ _ _ _ _ _ _ _ _ _ _ _ _ _ _ _ _ _ _ _ _ _ _ _ _ _ _ _ _ _ _ _ _ _ _ _ _ _ _ _ _ _ _ _ _ _ _ _ _ _ _ _ _ _ _ _ _ _ _ _ _ _ _ _ _ _ _ _ _ _ _ _ _ _ _ _ _ _ _ _ _ _ _ _ _ _ _ _ _ _ _ _ _ _ _ _ _ _ _ _ _ _ _ _ _ _ _ _ _ _ _ _ _ _ _ _ _ _ _ _ _ _ _ _ _ _ _ _ _ _ _ _ _ _ _ _ _ _ _ _ _ _ _ _ _ _ _ _ _ _ _ _ _ _ _ _ _ _ _ _ _ _ _ _ _ _ _ _ _ _ _ _ _ _ _ _ _ _ _ _ _ _ _ _ _ _ _ _ _ _ _ _ _ _ _ _ _ _ _ _ _ _ _ _ _ _ _ _ _ _ _ _ _ _ _ _ _ _ _ _ _ _ (HM.out.drewN nq) HODD.out HF.out.1 HF.out.2 hA hT hAL hTL hd hat (Nat.le_of_lt hR) hRm (by rw [HKI.out]; exact HKX.out) hk1 hk2 (by have := HKI.out; omega) HP.out rfl HPB.out HXY.out (by rw [HKI.out]; exact HSA.out) (by rw [HKI.out]; exact HSB.out) HG.out HD.out _ Kx hKx (fun t wx x y j g1 g2 g3 g4 g5 g6 => hRet t wx x y j g1 g2 g3 g4 g5 g6) ?_
          intro v24 v25 v26 v27 v28 v125 v126 v127 v128 v129 v130 v131 v132 v133 v134 v135 v136 v137 v138 v139 v140 v141 v142 v143 v144 v145 v146 v147 v148 v149 v150 v151 v152 v153 v154 v155 v156 v157 v158 v159 v160 v161 v162 v163 v164 v165 v166 v167 v168 v169 v170 v171 v172 v173 v174 v175 v176 v177 v178 v179 v180 v181 v182 v183 v184 v185 v186 v187 v188 v189 v190 v191 v192 v193 v194 v195 v196 v197 wx v hm hz hnm
          have HN : Hid (Half (eqA A T fl tl n m) at0 d (i + 1) (F.set p v) ∧ (odd = true → NoM n m at0 d (i + 1) ((d : Int) - 1) (F.set p v) G)) := ⟨HH.out.1.next hid hd (by have := HM.out.lenF; omega) (by rw [← HKI.out]; exact hz) p (by have := HP.out; have := HKI.out; omega), fun ho => (HH.out.2 ho).next hid hd (by have := HM.out.lenF; omega) p (by have := HP.out; have := HKI.out; omega) (fun g1 g2 => by have e1 := HKI.out; rw [← e1] at g1 g2 ⊢; have g3 := hnm ho g1 g2; rw [HPB2.out g1 g2]; exact g3)⟩
          have HM4 : Hid (Mem w0 wx B gA gT gf gb cA cT R cf cb A T (F.set p v) G) := hm
          clear hm hz hnm
          go_wp2_with fail
          go_roundw
          case rel => first | exact ⟨i + 1, k + 2, F.set p v, by omega, by omega, by show _ = _; have := HKI.out; omega, by go_num, HN, HM4⟩ | ((repeat apply Exists.intro); exact ⟨⟨i + 1, k + 2, F.set p v, by omega, by omega, by show _ = _; have := HKI.out; omega, by go_num, HN, HM4⟩, rfl⟩)
          case measure => simp [intOf]; omega
        · have b2 : (k != (d : Int)) = true := by rw [bne_iff_ne]; exact c2
          have hie : i < d := by have := HKI.out; omega
          by_cases c3 : a1 < a2
          · have b3 : decide (a1 < a2) = true := by simpa using c3
            have hs := HH.out.1.down hid hd p1 p2 HP1.out HP2.out (.inr ⟨hie, by rw [← HA1.out.1, ← HA1.out.2]; exact c3⟩)
            rw [← HA1.out.2] at hs
            clear c1 c2
            obtain ⟨x, y, hv, hk, hxy, hsa, hsb⟩ := hs
            have hrx := (eqA_box A T fl tl n m).reach hxy
            obtain ⟨hrx1, hrx2⟩ := hrx
            have HV : Hid (a2 = (x : Int)) := hv
            have HXY : Hid (Dst (eqA A T fl tl n m) x y ≤ d) := hxy
            have HKX : Hid (2 * (i : Int) - d = (x : Int) - y) := hk
            have HSA : Hid (2 * (i : Int) - d = -(d : Int) ∨ ∃ a : Int, 0 < d ∧ Fz (eqA A T fl tl n m) (d - 1) (2 * (i : Int) - d - 1) a ∧ a + 1 ≤ x) := hsa
            have HSB : Hid (2 * (i : Int) - d = (d : Int) ∨ ∃ b : Int, 0 < d ∧ Fz (eqA A T fl tl n m) (d - 1) (2 * (i : Int) - d + 1) b ∧ b ≤ x) := hsb
            clear hv hxy hk hsa hsb
            go_wp2_with fail
            refine wp_region_quiet_lit (by kernel_rfl) (by kernel_rfl) ?_
            repeat (with_reducible refine wpQuiet_step (fun K hK => ?_); go_simp; (first | with_reducible refine hK _ ?_ | (simp only [undef, reduceCtorEq, ↓reduceIte]; with_reducible refine hK _ ?_)); clear hK K)
            with_reducible refine wpQuiet_nil ?_
            intro _ hw1
            obtain ⟨nq, hw2⟩ := hw1
            subst hw2
            go_upto_region 18 with fail
            rename_i Kx hKx
            rw [HV.out]
            refine restF w0 (wr.drewN nq) B gA gT gf gb cA cT R cf cb fl fh tl th n m at0 d x y p pb k ((n : Int) - m - k) odd A T F G _ _ _ _ _ _ _ _ _ _ _ _ _ _ _ _ _ _ _ _ _ _ _ _ _ _ _ _ _ _ _ _ _ _ _ _ _ _ _ _ _ _ _ _ _ _ _ _ _ _ _ _ _ _ _ _ _ _ _ _ _ _ _ _ _ _ _ _ _ _ _ _ _ _ _ _ _ _ _ _ _ _ _ _ _ _ _ _ _ _ _ _ _ _ _ _ _ _ _ _ _ _ _ _ _ _ _ _ _ _ _ _ _ _ _ _ _ _ _ _ _ _ _ _ _ _ _ _ _ _ _ _ _ _ _ _ _ _ _ _ _ _ _ _ _ _ _ _ _ _ _ _ _ _ _ _ _ _ _ _ _ _ _ _ _ _ _ _ _ _ _ _ _ _ _ _ _ _ _ _ _ _ _ _ _ _ _ _ _ _ _ _ _ _ _ _ _ _ _ _ _ _ _ _ _ _ _ _ _ _ _ _ _ _ _ _ _ _ _ _ _ _ _ _ _ _ _ _ _ _ _ _ _ _ _ _ _ _ _ _ _ _ _ _ _ _ _ _ _ _ _ _ _ _ _ _ _ _ _ _ _ _ _ _ _ _ _ _ _ _ _ _ _ _ _ _ _ _ _ _ _ _ _ _ _ _ _ _ _ _ _ _ _ _ _ _ _ _ _ _ _ _ _ _ _ _ _ _ _ _ _ _ _ _ _ _ _ _ _ _ _ _ _ _ _ _ _ _ _ _ _ _ _ _ _ _ _ _ _ _ _ _ _ _ _ _ _ _ _ _ _ _ _ (HM.out.drewN nq) HODD.out HF.out.1 HF.out.2 hA hT hAL hTL hd hat (Nat.le_of_lt hR) hRm (by rw [HKI.out]; exact HKX.out) hk1 hk2 (by have := HKI.out; omega) HP.out rfl HPB.out HXY.out (by rw [HKI.out]; exact HSA.out) (by rw [HKI.out]; exact HSB.out) HG.out HD.out _ Kx hKx (fun t wx x y j g1 g2 g3 g4 g5 g6 => hRet t wx x y j g1 g2 g3 g4 g5 g6) ?_
            intro v24 v25 v26 v27 v28 v125 v126 v127 v128 v129 v130 v131 v132 v133 v134 v135 v136 v137 v138 v139 v140 v141 v142 v143 v144 v145 v146 v147 v148 v149 v150 v151 v152 v153 v154 v155 v156 v157 v158 v159 v160 v161 v162 v163 v164 v165 v166 v167 v168 v169 v170 v171 v172 v173 v174 v175 v176 v177 v178 v179 v180 v181 v182 v183 v184 v185 v186 v187 v188 v189 v190 v191 v192 v193 v194 v195 v196 v197 wx v hm hz hnm
            have HN : Hid (Half (eqA A T fl tl n m) at0 d (i + 1) (F.set p v) ∧ (odd = true → NoM n m at0 d (i + 1) ((d : Int) - 1) (F.set p v) G)) := ⟨HH.out.1.next hid hd (by have := HM.out.lenF; omega) (by rw [← HKI.out]; exact hz) p (by have := HP.out; have := HKI.out; omega), fun ho => (HH.out.2 ho).next hid hd (by have := HM.out.lenF; omega) p (by have := HP.out; have := HKI.out; omega) (fun g1 g2 => by have e1 := HKI.out; rw [← e1] at g1 g2 ⊢; have g3 := hnm ho g1 g2; rw [HPB2.out g1 g2]; exact g3)⟩
            have HM4 : Hid (Mem w0 wx B gA gT gf gb cA cT R cf cb A T (F.set p v) G) := hm
            clear hm hz hnm
            go_wp2_with fail
            go_roundw
            case rel => first | exact ⟨i + 1, k + 2, F.set p v, by omega, by omega, by show _ = _; have := HKI.out; omega, by go_num, HN, HM4⟩ | ((repeat apply Exists.intro); exact ⟨⟨i + 1, k + 2, F.set p v, by omega, by omega, by show _ = _; have := HKI.out; omega, by go_num, HN, HM4⟩, rfl⟩)
            case measure => simp [intOf]; omega
          · have b3 : decide (a1 < a2) = false := by simpa using c3
            have hs := HH.out.1.right hid hd p1 p2 HP1.out HP2.out hi0 (.inr (by rw [← HA1.out.1, ← HA1.out.2]; exact c3))
            rw [← HA1.out.1] at hs
            clear c1 c2
            obtain ⟨x, y, hv, hk, hxy, hsa, hsb⟩ := hs
            have hrx := (eqA_box A T fl tl n m).reach hxy
            obtain ⟨hrx1, hrx2⟩ := hrx
            have HV : Hid (a1 + 1 = (x : Int)) := hv
            have HXY : Hid (Dst (eqA A T fl tl n m) x y ≤ d) := hxy
            have HKX : Hid (2 * (i : Int) - d = (x : Int) - y) := hk
            have HSA : Hid (2 * (i : Int) - d = -(d : Int) ∨ ∃ a : Int, 0 < d ∧ Fz (eqA A T fl tl n m) (d - 1) (2 * (i : Int) - d - 1) a ∧ a + 1 ≤ x) := hsa
            have HSB : Hid (2 * (i : Int) - d = (d : Int) ∨ ∃ b : Int, 0 < d ∧ Fz (eqA A T fl tl n m) (d - 1) (2 * (i : Int) - d + 1) b ∧ b ≤ x) := hsb
            clear hv hxy hk hsa hsb
            have wX : IntKind.i64.wrap (a1 + 1) = (x : Int) := by have := HV.out; rw [IntWalk.i64_in _ ⟨by omega, by omega⟩]; omega
            go_wp2_with fail
            refine wp_region_quiet_lit (by kernel_rfl) (by kernel_rfl) ?_
            repeat (with_reducible refine wpQuiet_step (fun K hK => ?_); go_simp; (first | with_reducible refine hK _ ?_ | (simp only [undef, reduceCtorEq, ↓reduceIte]; with_reducible refine hK _ ?_)); clear hK K)
            with_reducible refine wpQuiet_nil ?_
            intro _ hw1
            obtain ⟨nq, hw2⟩ := hw1
            subst hw2
            go_upto_region 18 with fail
            rename_i Kx hKx
            refine restF w0 (wr.drewN nq) B gA gT gf gb cA cT R cf cb fl fh tl th n m at0 d x y p pb k ((n : Int) - m - k) odd A T F G _ _ _ _ _ _ _ _ _ _ _ _ _ _ _ _ _ _ _ _ _ _ _ _ _ _ _ _ _ _ _ _ _ _ _ _ _ _ _ _ _ _ _ _ _ _ _ _ _ _ _ _ _ _ _ _ _ _ _ _ _ _ _ _ _ _ _ _ _ _ _ _ _ _ _ _ _ _ _ _ _ _ _ _ _ _ _ _ _ _ _ _ _ _ _ _ _ _ _ _ _ _ _ _ _ _ _ _ _ _ _ _ _ _ _ _ _ _ _ _ _ _ _ _ _ _ _ _ _ _ _ _ _ _ _ _ _ _ _ _ _ _ _ _ _ _ _ _ _ _ _ _ _ _ _ _ _ _ _ _ _ _ _ _ _ _ _ _ _ _ _ _ _ _ _ _ _ _ _ _ _ _ _ _ _ _ _ _ _ _ _ _ _ _ _ _ _ _ _ _ _ _ _ _ _ _ _ _ _ _ _ _ _ _ _ _ _ _ _ _ _ _ _ _ _ _ _ _ _ _ _ _ _ _ _ _ _ _ _ _ _ _ _ _ _ _ _ _ _ _ _ _ _ _ _ _ _ _ _ _ _ _ _ _ _ _ _ _ _ _ _ _ _ _ _ _ _ _ _ _ _ _ _ _ _ _ _ _ _ _ _ _ _ _ _ _ _ _ _ _ _ _ _ _ _ _ _ _ _ _ _ _ _ _ _ _ _ _ _ _ _ _ _ _ _ _ _ _ _ _ _ _ _ _ _ _ _ _ _ _ _ _ _ _ _ _ _ _ _ _ _ _ _ (HM.out.drewN nq) HODD.out HF.out.1 HF.out.2 hA hT hAL hTL hd hat (Nat.le_of_lt hR) hRm (by rw [HKI.out]; exact HKX.out) hk1 hk2 (by have := HKI.out; omega) HP.out rfl HPB.out HXY.out (by rw [HKI.out]; exact HSA.out) (by rw [HKI.out]; exact HSB.out) HG.out HD.out _ Kx hKx (fun t wx x y j g1 g2 g3 g4 g5 g6 => hRet t wx x y j g1 g2 g3 g4 g5 g6) ?_
            intro v24 v25 v26 v27 v28 v125 v126 v127 v128 v129 v130 v131 v132 v133 v134 v135 v136 v137 v138 v139 v140 v141 v142 v143 v144 v145 v146 v147 v148 v149 v150 v151 v152 v153 v154 v155 v156 v157 v158 v159 v160 v161 v162 v163 v164 v165 v166 v167 v168 v169 v170 v171 v172 v173 v174 v175 v176 v177 v178 v179 v180 v181 v182 v183 v184 v185 v186 v187 v188 v189 v190 v191 v192 v193 v194 v195 v196 v197 wx v hm hz hnm
            have HN : Hid (Half (eqA A T fl tl n m) at0 d (i + 1) (F.set p v) ∧ (odd = true → NoM n m at0 d (i + 1) ((d : Int) - 1) (F.set p v) G)) := ⟨HH.out.1.next hid hd (by have := HM.out.lenF; omega) (by rw [← HKI.out]; exact hz) p (by have := HP.out; have := HKI.out; omega), fun ho => (HH.out.2 ho).next hid hd (by have := HM.out.lenF; omega) p (by have := HP.out; have := HKI.out; omega) (fun g1 g2 => by have e1 := HKI.out; rw [← e1] at g1 g2 ⊢; have g3 := hnm ho g1 g2; rw [HPB2.out g1 g2]; exact g3)⟩
            have HM4 : Hid (Mem w0 wx B gA gT gf gb cA cT R cf cb A T (F.set p v) G) := hm
            clear hm hz hnm
            go_wp2_with fail
            go_roundw
            case rel => first | exact ⟨i + 1, k + 2, F.set p v, by omega, by omega, by show _ = _; have := HKI.out; omega, by go_num, HN, HM4⟩ | ((repeat apply Exists.intro); exact ⟨⟨i + 1, k + 2, F.set p v, by omega, by omega, by show _ = _; have := HKI.out; omega, by go_num, HN, HM4⟩, rfl⟩)
            case measure => simp [intOf]; omega
    · have hie : i = d + 1 := by have := HKI.out; omega
      have HFI : Hid (Fw (eqA A T fl tl n m) at0 d F ∧ (odd = true → NoM n m at0 d (d + 1) ((d : Int) - 1) F G)) := by
        have h1 := HH.out
        rw [hie] at h1
        exact ⟨h1.1.done, h1.2⟩
      clear hie
      go_wp2_with fail
      exact hX _ _ _ _ _ _ _ _ _ _ _ _ _ _ _ _ _ _ _ _ _ _ _ _ _ _ _ _ _ _ _ _ _ _ _ _ _ _ _ _ _ _ _ _ _ _ _ _ _ _ _ _ _ _ _ _ _ _ _ _ _ _ _ _ _ _ _ _ _ _ _ _ _ _ _ _ _ _ _ _ _ _ _ _ _ _ _ _ _ _ _ _ _ _ _ _ _ _ _ _ _ _ _ _ _ _ _ _ _ _ _ _ _ _ _ _ _ _ _ _ _ _ _ _ _ _ _ _ _ _ _ _ _ _ _ _ _ _ _ _ _ _ F HM.out HFI.out.1 HFI.out.2
end Go.Proofs.Qxb6602567a.Ms
