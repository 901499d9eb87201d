/- The code behind the script loop. -/
import Derived.Test.Qxb6003380aScInv
namespace Go.Proofs.Qxb6003380a.fnValueBuilderScriptMatchesModel
open Go Go.ChangeShapes Go.WideShapes Go.ChangeAt Go.RowKit
open Go.ChangeMaps (open_string shut_string)
set_option linter.unusedVariables false
open Vb Sc
set_option maxHeartbeats 8000000 in
set_option maxRecDepth 100000 in
theorem restT (text pool : ByteArray) (start : Nat) (ops : List UInt8) (w' : World) (oa : Option Addr) (oc B1 B2 mb : Nat) (v12 v13 v14 v15 u16 u17 u18 u19 u20 u21 u22 u23 u24 u25 u26 u27 u28 u29 u30 u31 u32 u33 u34 u35 u36 u37 u38 u39 u40 u41 u42 u43 u44 u45 u46 u47 u48 u49 u50 u51 u52 u53 u54 u55 u56 u57 u58 u59 u60 u61 u62 u63 u64 u65 u66 u67 u68 u69 u70 u71 u72 u73 u74 u75 u76 u77 u78 u79 u80 u81 u82 u83 u84 u85 u86 u87 u88 u89 u90 u91 u92 u93 u94 u95 u96 u97 u98 u99 u100 u101 u102 u103 u104 u105 u106 u107 u108 u109 u110 u111 u112 u113 u114 u115 u116 u117 u118 u119 u120 u121 u122 u123 u124 u125 u126 u127 u128 u129 u130 u131 u132 u133 u134 u135 u136 u137 u138 u139 u140 u141 u142 u143 u144 u145 u146 u147 u148 u149 u150 u151 u152 u153 u154 u155 u156 u157 u158 u159 u160 u161 u162 u163 u164 u165 u166 u167 u168 u169 u170 u171 u172 u173 u174 u175 u176 u177 u178 u179 u180 u181 u182 u183 u184 u185 u186 u187 u188 u189 u190 u191 u192 u193 u194 u195 u196 u197 u198 u199 u200 u201 u202 u203 u204 u205 u206 u207 u208 u209 u210 u211 u212 u213 u214 u215 u216 u217 u218 u219 u220 u221 u222 u223 u224 u225 u226 u227 u228 u229 u230 u231 u232 u233 u234 u235 u236 u237 u238 u239 u240 u241 u242 u243 u244 u245 u246 u247 u248 u249 u250 u251 u252 u253 u254 u255 u256 u257 u258 u259 u260 u261 u262 u263 u264 u265 u266 u267 u268 u269 u270 u271 u272 u273 u274 u275 u276 u277 u278 u279 u280 u281 u282 u283 u284 u285 u286 u287 u288 u289 u290 u291 u292 u293 u294 u295 u296 u297 u298 u299 u300 u301 u302 u303 u304 u305 u306 u307 u308 u309 u310 u311 u312 u313 u314 u315 u316 u317 u318 u319 u320 u321 u322 u323 u324 u325 u326 u327 u328 u329 u330 u331 u332 : Value) (wc : World) (ht : text.size + ops.length + pool.size ≤ 1048576) (hn : ops.length ≤ 4096) (hs : start ≤ text.size) (hcut : Fin w' text start ops (.slice oa ops.length oc) B1 B2 mb v12 v13 v14 v15 wc) :
    Code.wp Try.prog ((Try.f9.body.bind after0).getD .skip) (bodyPost Try.prog Try.f9 fun r w2 => r = .returned (.bool true) ∧ Below w'.heap.size w' w2) ⟨List.toArray (.string text :: .int .i64 (start : Int) :: .slice oa ops.length oc :: .string pool :: undef :: undef :: undef :: undef :: .bool false :: .pointer (some ⟨mb, 0, none⟩) :: .pointer (some ⟨B1, 0, none⟩) :: .pointer (some ⟨B2, 0, none⟩) :: v12 :: v13 :: v14 :: v15 :: u16 :: u17 :: u18 :: u19 :: u20 :: u21 :: u22 :: u23 :: u24 :: u25 :: u26 :: u27 :: u28 :: u29 :: u30 :: u31 :: u32 :: u33 :: u34 :: u35 :: u36 :: u37 :: u38 :: u39 :: u40 :: u41 :: u42 :: u43 :: u44 :: u45 :: u46 :: u47 :: u48 :: u49 :: u50 :: u51 :: u52 :: u53 :: u54 :: u55 :: u56 :: u57 :: u58 :: u59 :: u60 :: u61 :: u62 :: u63 :: u64 :: u65 :: u66 :: u67 :: u68 :: u69 :: u70 :: u71 :: u72 :: u73 :: u74 :: u75 :: u76 :: u77 :: u78 :: u79 :: u80 :: u81 :: u82 :: u83 :: u84 :: u85 :: u86 :: u87 :: u88 :: u89 :: u90 :: u91 :: u92 :: u93 :: u94 :: u95 :: u96 :: u97 :: u98 :: u99 :: u100 :: u101 :: u102 :: u103 :: u104 :: u105 :: u106 :: u107 :: u108 :: u109 :: u110 :: u111 :: u112 :: u113 :: u114 :: u115 :: u116 :: u117 :: u118 :: u119 :: u120 :: u121 :: u122 :: u123 :: u124 :: u125 :: u126 :: u127 :: u128 :: u129 :: u130 :: u131 :: u132 :: u133 :: u134 :: u135 :: u136 :: u137 :: u138 :: u139 :: u140 :: u141 :: u142 :: u143 :: u144 :: u145 :: u146 :: u147 :: u148 :: u149 :: u150 :: u151 :: u152 :: u153 :: u154 :: u155 :: u156 :: u157 :: u158 :: u159 :: u160 :: u161 :: u162 :: u163 :: u164 :: u165 :: u166 :: u167 :: u168 :: u169 :: u170 :: u171 :: u172 :: u173 :: u174 :: u175 :: u176 :: u177 :: u178 :: u179 :: u180 :: u181 :: u182 :: u183 :: u184 :: u185 :: u186 :: u187 :: u188 :: u189 :: u190 :: u191 :: u192 :: u193 :: u194 :: u195 :: u196 :: u197 :: u198 :: u199 :: u200 :: u201 :: u202 :: u203 :: u204 :: u205 :: u206 :: u207 :: u208 :: u209 :: u210 :: u211 :: u212 :: u213 :: u214 :: u215 :: u216 :: u217 :: u218 :: u219 :: u220 :: u221 :: u222 :: u223 :: u224 :: u225 :: u226 :: u227 :: u228 :: u229 :: u230 :: u231 :: u232 :: u233 :: u234 :: u235 :: u236 :: u237 :: u238 :: u239 :: u240 :: u241 :: u242 :: u243 :: u244 :: u245 :: u246 :: u247 :: u248 :: u249 :: u250 :: u251 :: u252 :: u253 :: u254 :: u255 :: u256 :: u257 :: u258 :: u259 :: u260 :: u261 :: u262 :: u263 :: u264 :: u265 :: u266 :: u267 :: u268 :: u269 :: u270 :: u271 :: u272 :: u273 :: u274 :: u275 :: u276 :: u277 :: u278 :: u279 :: u280 :: u281 :: u282 :: u283 :: u284 :: u285 :: u286 :: u287 :: u288 :: u289 :: u290 :: u291 :: u292 :: u293 :: u294 :: u295 :: u296 :: u297 :: u298 :: u299 :: u300 :: u301 :: u302 :: u303 :: u304 :: u305 :: u306 :: u307 :: u308 :: u309 :: u310 :: u311 :: u312 :: u313 :: u314 :: u315 :: u316 :: u317 :: u318 :: u319 :: u320 :: u321 :: u322 :: u323 :: u324 :: u325 :: u326 :: u327 :: u328 :: u329 :: u330 :: u331 :: u332 :: List.nil), []⟩ wc := by
  conv => arg 2; whnf
  obtain ⟨f, k, i, c, want, src, aA, aF, ms, cp, nx, hk, hG, hA⟩ := hcut
  obtain ⟨a12, c12, rfl⟩ := hA.r12.form
  obtain ⟨a13, c13, rfl⟩ := hA.r13.form
  obtain ⟨a14, c14, rfl⟩ := hA.r14.form
  obtain ⟨a15, c15, rfl⟩ := hA.r15.form
  obtain ⟨vb, hvb, -⟩ := hA.b
  obtain ⟨vm, hmk⟩ := hvb.mks
  obtain ⟨gm, cm, hMK0⟩ := MK.of hmk hG.msk.pos
  have hMK : MK wc mb gm cm ms := hMK0
  clear hMK0
  have hi1 := hG.hi
  have hm1 := hG.hm
  have hw1 := hG.hw
  have ha1 := hG.ha
  have hmp : 0 < ms.length := hG.msk.pos
  have hbel := hA.st.below (fun _ _ => rfl) (by omega)
  have HG : Hid _ := hG
  have HA : Hid _ := hA
  have HMK : Hid _ := hMK
  have HB0 : Hid _ := hbel
  clear hG hA hvb hmk hMK hbel
  go_wp2_with fail
  refine (HA.out.b.str i (fun h => HG.out.plain h) (by omega) (by omega) (by omega)).mono ?_
  rintro r w4 ⟨rfl, n1, rfl⟩
  have hcv : (convert 31 9 (.slice a12 want.length c12)).run Try.prog (wc.drewN n1) = .ok (.string ⟨want.toArray⟩) (wc.drewN n1) := conv_row (f := f) (j := 30) HA.out.r12
  go_wp2_with fail
  refine ((HA.out.q.drewN n1).str i (fun h => HG.out.plain h) (by omega) (by omega) (by omega)).mono ?_
  rintro r w4 ⟨rfl, n2, rfl⟩
  clear hcv
  go_wp2_with fail
  refine ((HA.out.b.drewN (n1 + n2)).len i (fun h => HG.out.plain h) (by omega) (by omega) (by omega)).mono ?_
  rintro r w4 ⟨rfl, n3, rfl⟩
  go_wp2_with fail
  refine ((HA.out.q.drewN (n1 + n2 + n3)).len i (fun h => HG.out.plain h) (by omega) (by omega) (by omega)).mono ?_
  rintro r w4 ⟨rfl, n4, rfl⟩
  have hB4 : Below wc.heap.size wc (wc.drewN (n1 + n2 + n3 + n4)) := below_drewN (Below.refl _ _) _
  obtain ⟨w4, hw4⟩ : ∃ w4, w4 = wc.drewN (n1 + n2 + n3 + n4) := ⟨_, rfl⟩
  have hw5 : ((wc.drewN (n1 + n2 + n3)).drewN n4) = w4 := by rw [hw4]; simp
  rw [hw5]
  rw [← hw4] at hB4
  clear hw4 hw5
  have mv := (HMK.out.later hB4).v
  have m0 := (HMK.out.later hB4).a 0 hmp
  have r0 := (HMK.out.later hB4).r 0 hmp
  rw [HG.out.msk.a0] at m0
  rw [HG.out.msk.f0] at r0
  simp only [Nat.zero_mul, Nat.zero_add] at m0 r0
  have hml : ((ms.length : Int) == 0) = false := by rw [beq_eq_false_iff_ne]; omega
  have hml2 : (0 : Int) < (ms.length : Int) := by omega
  go_wp2_with fail
  refine (at_any _ _ _).mono ?_
  rintro r w5 ⟨rfl, hw5⟩
  have hB5 : Below wc.heap.size wc w5 := by rw [hw5]; exact hB4.alloc hB4.size _
  have mv5 := (HMK.out.later hB5).v
  have m05 := (HMK.out.later hB5).a 0 hmp
  have r05 := (HMK.out.later hB5).r 0 hmp
  rw [HG.out.msk.a0] at m05
  rw [HG.out.msk.f0] at r05
  simp only [Nat.zero_mul, Nat.zero_add] at m05 r05
  clear hw5 mv m0 r0
  go_wp2_with fail
  refine (from_any _ _ _).mono ?_
  rintro r w6 ⟨rfl, hw6⟩
  have hB6 : Below wc.heap.size wc w6 := by rw [hw6]; exact hB5.alloc hB5.size _
  clear hw6 mv5 m05 r05 hml hml2
  go_wp2_with fail
  go_loopw [26] (fun v26 wr => ∃ m : Nat, 1 ≤ m ∧ m ≤ ms.length ∧ v26 = .int .i64 (m : Int) ∧ Below wc.heap.size wc wr) (fun v26 _ => ms.length - (intOf v26).toNat)
  case atStart => exact ⟨1, by omega, by omega, rfl, hB6⟩
  case round =>
    obtain ⟨m, hm2, hm3, rfl, hBr⟩ := hrel
    have mv := (HMK.out.later hBr).v
    by_cases hmlt : m < ms.length
    · as_aux_lemma =>
        have q1 : (m : Int) < (ms.length : Int) := by omega
        have q0 : (0 : Int) ≤ (m : Int) := by omega
        obtain ⟨p, hpm⟩ : ∃ p, p + 1 = m := ⟨m - 1, by omega⟩
        have p1 : (p : Int) < (ms.length : Int) := by omega
        have p0 : (0 : Int) ≤ (p : Int) := by omega
        have wm : IntKind.i64.wrap ((m : Int) - 1) = (p : Int) := by rw [IntWalk.i64_in _ ⟨by omega, by omega⟩]; omega
        have am := HG.out.msk.am p (by omega)
        have fm := HG.out.msk.fm p (by omega)
        rw [hpm] at am fm
        have t1 := (HMK.out.later hBr).a m hmlt
        have t2 := (HMK.out.later hBr).r m hmlt
        have t3 := (HMK.out.later hBr).a p (by omega)
        have t4 := (HMK.out.later hBr).r p (by omega)
        have d1 : decide (at' ms m < at' ms p) = false := by simp; omega
        have d2 : decide (fr' ms m < fr' ms p) = false := by simp; omega
        have HPM : Hid _ := hpm
        clear hpm am fm
        go_wp2_with fail
        go_region_held3 (fun w' => w'.cell? ⟨mb, 0, none⟩ = some (.slice (some ⟨gm, 0, none⟩) ms.length cm) ∧ w'.cell? ⟨gm, m * 2, none⟩ = some (.int .i64 (at' ms m)) ∧ w'.cell? ⟨gm, m * 2 + 1, none⟩ = some (.int .i64 (fr' ms m)) ∧ w'.cell? ⟨gm, p * 2, none⟩ = some (.int .i64 (at' ms p)) ∧ w'.cell? ⟨gm, p * 2 + 1, none⟩ = some (.int .i64 (fr' ms p))) (refine ⟨?_, ?_, ?_, ?_, ?_⟩ <;> (repeat (first | assumption | refine kd ?_ | refine ka ?_))) (first | (go_at_call 18; refine (at_any _ _ _).mono ?_; rintro r w' ⟨rfl, rfl⟩) | (go_at_call 19; refine (from_any _ _ _).mono ?_; rintro r w' ⟨rfl, rfl⟩))
        go_wp2_with fail
        go_roundw
        case rel => exact ⟨m + 1, by omega, by omega, by go_num, (bela (bela (bela (bela hBr _) _) _) _).drew⟩
        case measure => simp [intOf]; omega
    · as_aux_lemma =>
        go_wp2_with fail
        go_loopw [27, 28] (fun v27 v28 wr => ∃ m jj : Nat, m < ms.length ∧ at' ms m ≤ (jj : Int) ∧ jj ≤ want.length ∧ v27 = .int .i64 (m : Int) ∧ v28 = .int .i64 (jj : Int) ∧ Below wc.heap.size wc wr) (fun _ v28 _ => want.length - (intOf v28).toNat)
        case atStart => exact ⟨0, 0, hmp, by rw [HG.out.msk.a0]; exact Int.le_refl _, Nat.zero_le _, rfl, rfl, hBr⟩
        case round =>
          obtain ⟨m5, jj, hm5, hat5, hjj, rfl, rfl, hB7⟩ := hrel
          by_cases hjl : jj < want.length
          · as_aux_lemma =>
              have hsl : jj < src.length := by have := HG.out.hs; omega
              obtain ⟨gs, cs, hvs, -, -⟩ := HA.out.r13.1.form (by omega)
              have hvs1 : a13 = some ⟨gs, 0, none⟩ := by simp at hvs; exact hvs.1
              subst hvs1
              clear hvs mv hmlt
              have csrc : wc.cell? ⟨gs, jj, none⟩ = some (.int .i64 (ig src jj)) := by rw [row_cell HA.out.r13 jj hsl]; exact icells_at hsl
              have HCS : Hid _ := csrc
              clear csrc
              go_upto_block 10 with fail
              go_cut [27] (fun v27 wd => ∃ m : Nat, Sel ms (jj : Int) m ∧ v27 = .int .i64 (m : Int) ∧ Below wc.heap.size wc wd)
              case first =>
                go_wp2_with fail
                go_loopw [27] (fun v27 wr => ∃ m : Nat, m < ms.length ∧ at' ms m ≤ (jj : Int) ∧ v27 = .int .i64 (m : Int) ∧ Below wc.heap.size wc wr) (fun v27 _ => ms.length - (intOf v27).toNat)
                case atStart => exact ⟨m5, hm5, hat5, rfl, hB7⟩
                case round =>
                  obtain ⟨m, hm, hat, rfl, hB8⟩ := hrel
                  have mv := (HMK.out.later hB8).v
                  by_cases h1 : m + 1 < ms.length
                  · as_aux_lemma =>
                      have h1i : (m : Int) + 1 < (ms.length : Int) := by omega
                      have h1d : decide ((m : Int) + 1 < (ms.length : Int)) = true := by simpa using h1i
                      have t1 := (HMK.out.later hB8).a (m + 1) h1
                      have t2 := (HMK.out.later hB8).r (m + 1) h1
                      by_cases h2 : at' ms (m + 1) ≤ (jj : Int)
                      · go_wp2_with (go_at_call 18; refine (at_any _ _ _).mono ?_; rintro r w' ⟨rfl, rfl⟩)
                        go_roundw
                        case rel => exact ⟨m + 1, h1, h2, by go_num, bela hB8 _⟩
                        case measure => simp [intOf]; omega
                      · have hsel : Sel ms (jj : Int) m := ⟨hm, hat, fun _ => by omega⟩
                        have HSEL : Hid _ := hsel
                        clear hsel
                        go_wp2_with (go_at_call 18; refine (at_any _ _ _).mono ?_; rintro r w' ⟨rfl, rfl⟩)
                        go_meet
                        case rel => exact ⟨m, HSEL.out, rfl, bela hB8 _⟩
                  · have h1d : decide ((m : Int) + 1 < (ms.length : Int)) = false := by simp; omega
                    have HSEL : Hid (Sel ms (jj : Int) m) := ⟨hm, hat, fun h => absurd h h1⟩
                    go_wp2_with fail
                    go_meet
                    case rel => exact ⟨m, HSEL.out, rfl, hB8⟩
              case rest =>
                obtain ⟨m, hsel, rfl, hB9⟩ := hcut
                have mv := (HMK.out.later hB9).v
                have t1 := (HMK.out.later hB9).a m hsel.1
                have t2 := (HMK.out.later hB9).r m hsel.1
                have t3 := later hB9 HCS.out
                have hm6 := hsel.1
                have q1 : (m : Int) < (ms.length : Int) := by omega
                have q0 : (0 : Int) ≤ (m : Int) := by omega
                have j1 : (jj : Int) < (src.length : Int) := by omega
                have j0 : (0 : Int) ≤ (jj : Int) := by omega
                have hat6 := hsel.2.1
                by_cases hs0 : 0 ≤ ig src jj
                · as_aux_lemma =>
                    have hd : decide (0 ≤ ig src jj) = true := by simpa using hs0
                    have e := HG.out.cov jj hsl m hsel hs0
                    have g1 := HG.out.msk.al m hm6
                    have g2 := HG.out.msk.fl m hm6
                    have g3 := HG.out.msk.ge m hm6
                    have w1' : IntKind.i64.wrap (fr' ms m + (jj : Int)) = fr' ms m + (jj : Int) := IntWalk.i64_in _ ⟨by omega, by omega⟩
                    have w2' : IntKind.i64.wrap (fr' ms m + (jj : Int) - at' ms m) = ig src jj := by rw [IntWalk.i64_in _ ⟨by omega, by omega⟩]; exact e
                    clear hsel e g1 g2 g3 hs0
                    go_wp2_with fail
                    go_region_held3 (fun w' => w'.cell? ⟨mb, 0, none⟩ = some (.slice (some ⟨gm, 0, none⟩) ms.length cm) ∧ w'.cell? ⟨gm, m * 2, none⟩ = some (.int .i64 (at' ms m)) ∧ w'.cell? ⟨gm, m * 2 + 1, none⟩ = some (.int .i64 (fr' ms m)) ∧ w'.cell? ⟨gs, jj, none⟩ = some (.int .i64 (ig src jj))) (refine ⟨?_, ?_, ?_, ?_⟩ <;> (repeat (first | assumption | refine kd ?_ | refine ka ?_))) (first | (go_at_call 18; refine (at_any _ _ _).mono ?_; rintro r w' ⟨rfl, rfl⟩) | (go_at_call 19; refine (from_any _ _ _).mono ?_; rintro r w' ⟨rfl, rfl⟩))
                    go_wp2_with fail
                    go_roundw
                    case rel => first | exact ⟨m, jj + 1, hm6, by omega, by omega, rfl, by go_num, (bela (bela hB9 _) _).drew⟩ | ((repeat apply Exists.intro); exact ⟨⟨m, jj + 1, hm6, by omega, by omega, rfl, by go_num, (bela (bela hB9 _) _).drew⟩, rfl⟩)
                    case measure => simp [intOf]; omega
                · as_aux_lemma =>
                    have hd : decide (0 ≤ ig src jj) = false := by simpa using hs0
                    clear hsel hs0
                    go_wp2_with fail
                    go_quiet (fail)
                    go_wp2_with fail
                    go_roundw
                    case rel => first | exact ⟨m, jj + 1, hm6, by omega, by omega, rfl, by go_num, below_drewN hB9 _⟩ | ((repeat apply Exists.intro); exact ⟨⟨m, jj + 1, hm6, by omega, by omega, rfl, by go_num, below_drewN hB9 _⟩, rfl⟩)
                    case measure => simp [intOf]; omega
          · as_aux_lemma =>
              go_wp2_with fail
              go_loopw [27, 29] (fun v27 v29 wr => ∃ m tt : Nat, m < ms.length ∧ Hid (tt < aA.length → at' ms m ≤ ig aA tt) ∧ tt ≤ aA.length ∧ v27 = .int .i64 (m : Int) ∧ v29 = .int .i64 (tt : Int) ∧ Below wc.heap.size wc wr) (fun _ v29 _ => aA.length - (intOf v29).toNat)
              case atStart => exact ⟨0, 0, hmp, fun h => by rw [HG.out.msk.a0]; exact (HG.out.aB 0 h).1, Nat.zero_le _, rfl, rfl, hB7⟩
              case round =>
                obtain ⟨m7, tt, hm7, hat7, htt, rfl, rfl, hB10⟩ := hrel
                by_cases htl : tt < aA.length
                · as_aux_lemma =>
                    have hfl : tt < aF.length := by have := HG.out.hf; omega
                    obtain ⟨ga, ca, hva, -, -⟩ := HA.out.r14.1.form (by omega)
                    have hva1 : a14 = some ⟨ga, 0, none⟩ := by simp at hva; exact hva.1
                    subst hva1
                    obtain ⟨gf, cf, hvf, -, -⟩ := HA.out.r15.1.form (by omega)
                    have hvf1 : a15 = some ⟨gf, 0, none⟩ := by simp at hvf; exact hvf.1
                    subst hvf1
                    clear hva hvf
                    have HCA : Hid _ := show wc.cell? ⟨ga, tt, none⟩ = some (.int .i64 (ig aA tt)) by rw [row_cell HA.out.r14 tt htl]; exact icells_at htl
                    have HCF : Hid _ := show wc.cell? ⟨gf, tt, none⟩ = some (.int .i64 (ig aF tt)) by rw [row_cell HA.out.r15 tt hfl]; exact icells_at hfl
                    have x1 : (tt : Int) < (aA.length : Int) := by omega
                    have x2 : (tt : Int) < (aF.length : Int) := by omega
                    have x0 : (0 : Int) ≤ (tt : Int) := by omega
                    have hat8 := hat7.out htl
                    go_upto_block 14 with fail
                    go_cut [27] (fun v27 wd => ∃ m : Nat, Sel ms (ig aA tt) m ∧ v27 = .int .i64 (m : Int) ∧ Below wc.heap.size wc wd)
                    case first =>
                      go_wp2_with fail
                      go_loopw [27] (fun v27 wr => ∃ m : Nat, m < ms.length ∧ at' ms m ≤ ig aA tt ∧ v27 = .int .i64 (m : Int) ∧ Below wc.heap.size wc wr) (fun v27 _ => ms.length - (intOf v27).toNat)
                      case atStart => exact ⟨m7, hm7, hat8, rfl, hB10⟩
                      case round =>
                        obtain ⟨m, hm, hat, rfl, hB11⟩ := hrel
                        have mv := (HMK.out.later hB11).v
                        have tA := later hB11 HCA.out
                        obtain ⟨p, hpm⟩ : ∃ p, p = m + 1 := ⟨_, rfl⟩
                        have wm : IntKind.i64.wrap ((m : Int) + 1) = (p : Int) := by rw [IntWalk.i64_in _ ⟨by omega, by omega⟩]; omega
                        have p0 : (0 : Int) ≤ (p : Int) := by omega
                        by_cases h1 : p < ms.length
                        · have h1i : (p : Int) < (ms.length : Int) := by omega
                          have h1d : decide ((p : Int) < (ms.length : Int)) = true := by simpa using h1i
                          have t1 := (HMK.out.later hB11).a p h1
                          have t2 := (HMK.out.later hB11).r p h1
                          by_cases h2 : at' ms p ≤ ig aA tt
                          · as_aux_lemma =>
                              have HP : Hid _ := hpm
                              clear hpm
                              go_wp2_with fail
                              go_region_held3 (fun w' => w'.cell? ⟨mb, 0, none⟩ = some (.slice (some ⟨gm, 0, none⟩) ms.length cm) ∧ w'.cell? ⟨gm, p * 2, none⟩ = some (.int .i64 (at' ms p)) ∧ w'.cell? ⟨gm, p * 2 + 1, none⟩ = some (.int .i64 (fr' ms p)) ∧ w'.cell? ⟨ga, tt, none⟩ = some (.int .i64 (ig aA tt))) (refine ⟨?_, ?_, ?_, ?_⟩ <;> (repeat (first | assumption | refine kd ?_ | refine ka ?_))) (first | (go_at_call 18; refine (at_any _ _ _).mono ?_; rintro r w' ⟨rfl, rfl⟩) | (go_at_call 19; refine (from_any _ _ _).mono ?_; rintro r w' ⟨rfl, rfl⟩))
                              go_wp2_with fail
                              go_roundw
                              case rel => exact ⟨p, h1, h2, by first | (rw [HP.out]; done) | (rw [HP.out]; go_num), (bela hB11 _).drew⟩
                              case measure => have := HP.out; simp [intOf]; omega
                          · as_aux_lemma =>
                              have HSEL : Hid (Sel ms (ig aA tt) m) := ⟨hm, hat, fun _ => by rw [← hpm]; omega⟩
                              clear hpm
                              go_wp2_with fail
                              go_region_held3 (fun w' => w'.cell? ⟨mb, 0, none⟩ = some (.slice (some ⟨gm, 0, none⟩) ms.length cm) ∧ w'.cell? ⟨gm, p * 2, none⟩ = some (.int .i64 (at' ms p)) ∧ w'.cell? ⟨gm, p * 2 + 1, none⟩ = some (.int .i64 (fr' ms p)) ∧ w'.cell? ⟨ga, tt, none⟩ = some (.int .i64 (ig aA tt))) (refine ⟨?_, ?_, ?_, ?_⟩ <;> (repeat (first | assumption | refine kd ?_ | refine ka ?_))) (first | (go_at_call 18; refine (at_any _ _ _).mono ?_; rintro r w' ⟨rfl, rfl⟩) | (go_at_call 19; refine (from_any _ _ _).mono ?_; rintro r w' ⟨rfl, rfl⟩))
                              go_wp2_with fail
                              go_meet
                              case rel => exact ⟨m, HSEL.out, rfl, (bela hB11 _).drew⟩
                        · as_aux_lemma =>
                            have h1d : decide ((p : Int) < (ms.length : Int)) = false := by simp; omega
                            have HSEL : Hid (Sel ms (ig aA tt) m) := ⟨hm, hat, fun h => absurd h (by omega)⟩
                            clear hpm
                            go_wp2_with fail
                            go_quiet (fail)
                            go_wp2_with fail
                            go_meet
                            case rel => exact ⟨m, HSEL.out, rfl, below_drewN hB11 _⟩
                    case rest =>
                      obtain ⟨m, hsel, rfl, hB12⟩ := hcut
                      have mv := (HMK.out.later hB12).v
                      have t1 := (HMK.out.later hB12).a m hsel.1
                      have t2 := (HMK.out.later hB12).r m hsel.1
                      have tF := later hB12 HCF.out
                      have hm9 := hsel.1
                      have q1 : (m : Int) < (ms.length : Int) := by omega
                      have q0 : (0 : Int) ≤ (m : Int) := by omega
                      have hne : (fr' ms m != ig aF tt) = false := by rw [HG.out.covA tt htl m hsel]; simp
                      have HAT : Hid (tt + 1 < aA.length → at' ms m ≤ ig aA (tt + 1)) := fun h => Int.le_trans hsel.2.1 (HG.out.aS tt h)
                      clear hsel
                      go_wp2_with fail
                      go_region_held3 (fun w' => w'.cell? ⟨mb, 0, none⟩ = some (.slice (some ⟨gm, 0, none⟩) ms.length cm) ∧ w'.cell? ⟨gm, m * 2, none⟩ = some (.int .i64 (at' ms m)) ∧ w'.cell? ⟨gm, m * 2 + 1, none⟩ = some (.int .i64 (fr' ms m)) ∧ w'.cell? ⟨gf, tt, none⟩ = some (.int .i64 (ig aF tt))) (refine ⟨?_, ?_, ?_, ?_⟩ <;> (repeat (first | assumption | refine kd ?_ | refine ka ?_))) (first | (go_at_call 18; refine (at_any _ _ _).mono ?_; rintro r w' ⟨rfl, rfl⟩) | (go_at_call 19; refine (from_any _ _ _).mono ?_; rintro r w' ⟨rfl, rfl⟩))
                      go_wp2_with fail
                      go_roundw
                      case rel => first | exact ⟨m, tt + 1, hm9, HAT, by omega, rfl, by go_num, (bela hB12 _).drew⟩ | ((repeat apply Exists.intro); exact ⟨⟨m, tt + 1, hm9, HAT, by omega, rfl, by go_num, (bela hB12 _).drew⟩, rfl⟩)
                      case measure => simp [intOf]; omega
                · go_wp2_with fail
                  go_ret
                  exact ⟨rfl, HB0.out.trans (hB10.mono HB0.out.size)⟩

end Go.Proofs.Qxb6003380a.fnValueBuilderScriptMatchesModel
