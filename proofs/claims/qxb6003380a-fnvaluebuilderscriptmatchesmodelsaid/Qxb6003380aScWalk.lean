/- The walk of the claim's function. -/
import Derived.Test.Qxb6003380aScRest
import Derived.Test.Qxb6003380aScFirst
namespace Go.Proofs.Qxb6003380a.fnValueBuilderScriptMatchesModel
open Go Go.ChangeShapes Go.WideShapes Go.ChangeAt Go.RowKit
open Go.ChangeMaps (open_string shut_string)
set_option linter.unusedVariables false
open Vb Sc
set_option maxHeartbeats 8000000 in
set_option maxRecDepth 100000 in
theorem inner (text pool : ByteArray) (start : Nat) (a : Option Addr) (cap : Nat) (ops : List UInt8) (w : World) (ha : a = none → ops.length = 0)
    (hc : ∀ k (h : k < ops.length), ∃ b off, a = some ⟨b, off, none⟩ ∧ w.cell? ⟨b, off + k, none⟩ = some (.int .u8 ((ops[k]'(by omega)).toNat : Int)))
    (ht : text.size + ops.length + pool.size ≤ 1048576) (hn : ops.length ≤ 4096) (hs : start ≤ text.size) :
    Calls Try.prog 9 #[.string text, .int .i64 (start : Int), .slice a ops.length cap, .string pool] w fun r w' => r = .returned (.bool true) ∧ Below w.heap.size w w' := by
  obtain ⟨i5, hi5, hx0, hx1, hx2⟩ := info_parts info5
  obtain ⟨i3, hi3, hy0, hy1, hy2⟩ := info_parts info3
  have b1 : decide ((start : Int) < 0) = false := by simp
  have b2 : decide ((text.size : Int) < start) = false := by simp; omega
  have HC : Hid _ := hc
  clear hc
  go_enter Try.func9, Try.ntmps9
  go_wp2_with fail
  refine (bytes_any text pool _ _ _ _ _ ht).mono ?_
  rintro r w' ⟨rfl, rfl⟩
  go_wp2_with fail
  refine (clone_any _ a ops.length cap ops rfl ha (by omega) HC.out).mono ?_
  rintro r w1 ⟨⟨ov, rfl, hov, hfresh⟩, hb1⟩
  clear HC ha
  have hS1 : Step (fun _ => 0) (fun k => 10 ≤ k) w' w1 (ext (fun _ => 0) w'.heap.size 40) :=
    ⟨hb1.os, hb1.tape, hb1.output, hb1.size, fun k hk _ => hb1.block k hk, fun k hk => ext_old hk⟩
  have hR1 : Row (ext (fun _ => 0) w'.heap.size 40) 40 w1 5 1 ov ops.length (bcells ops) := ⟨hov, fun k hk => ext_new (hfresh k hk)⟩
  have hM : Marks (ext (ext (fun _ => 0) w'.heap.size 40) w1.heap.size 12) 12 (w1.alloc (.cells #[.slice none 0 0] 32)) w1.heap.size (.slice none 0 0) [] :=
    ⟨Go.heap_alloc_new w1 _, ext_new (Nat.le_refl _), Row.nil _ _ _ _ _⟩
  have hS2 : Step (ext (fun _ => 0) w'.heap.size 40) (fun k => k = 12) w1 (w1.alloc (.cells #[.slice none 0 0] 32)) (ext (ext (fun _ => 0) w'.heap.size 40) w1.heap.size 12) :=
    ((Step.refl _ _ w1).alloc _).extend 12
  obtain ⟨oa, oc, rfl⟩ := hR1.form
  clear hov hfresh hb1
  go_wp2_with fail
  refine (zznew_marks (j := 10) _ _ text start (by omega) hM).mono ?_
  rintro r w2 ⟨B1, f1, rfl, hv1, hs1⟩
  go_wp2_with fail
  refine (zznew_plain text start w2 (by omega)).mono ?_
  rintro r w3 ⟨rfl, hw3⟩
  obtain ⟨hv2, hs2⟩ := VB.made (f0 := f1) (f := f1) (j := 20) (w := w2) (W := w2) (mp := none) (text := text) (start := start) (ms := []) rfl (Step.refl _ _ _) w2.heap.size rfl
  rw [← hw3] at hv2 hs2
  obtain ⟨B2, hB2⟩ : ∃ B2, B2 = w2.heap.size := ⟨_, rfl⟩
  rw [← hB2] at hv2 hs2 ⊢
  have hR3 := ((hR1.step hS2 (by omega)).step hs1 (by unfold Of; omega)).step hs2 (by unfold Of; omega)
  have hM0 : MInv w' text start ops (.slice oa ops.length oc) B1 B2 w1.heap.size (.slice none 0 0) (.slice none 0 0) (.slice none 0 0) (.slice none 0 0) (.int .i64 (start : Int)) (.int .i64 0) (.int .i64 0) w3 := by
    refine ⟨_, 0, start, 0, [], [], [], [], [(0, (start : Int))], false, (start : Int), Nat.zero_le _, Sc.Good.start text start hs, rfl, rfl, rfl, ⟨_, hv1.step hs2 (fun k h => by unfold Of at *; omega), fun _ => rfl⟩, ⟨_, hv2, fun _ => rfl⟩, Row.nil _ _ _ _ _, Row.nil _ _ _ _ _, Row.nil _ _ _ _ _, Row.nil _ _ _ _ _, hR3, ?_⟩
    exact ((hS1.trans (hS2.mono (fun k h => by omega))).trans (hs1.mono (fun k h => by unfold Of at h; omega))).trans (hs2.mono (fun k h => by unfold Of at h; omega))
  obtain ⟨mb, hmb⟩ : ∃ mb, mb = w1.heap.size := ⟨_, rfl⟩
  rw [← hmb] at hM0 ⊢
  clear hv1 hs1 hv2 hs2 hw3 hM hS1 hS2 hR1 hR3 hB2 hmb
  go_upto_block 0 with fail
  go_cut [12, 13, 14, 15] from 16 (fun v12 v13 v14 v15 wc => Fin w' text start ops (.slice oa ops.length oc) B1 B2 mb v12 v13 v14 v15 wc)
  case first =>
    go_wp2_with fail
    refine loopT text pool start ops w' oa oc B1 B2 mb _ _ _ _ _ _ _ _ _ _ _ _ _ _ _ _ _ _ _ _ _ _ _ _ _ _ _ _ _ _ _ _ _ _ _ _ _ _ _ _ _ _ _ _ _ _ _ _ _ _ _ _ _ _ _ _ _ _ _ _ _ _ _ _ _ _ _ _ _ _ _ _ _ _ _ _ _ _ _ _ _ _ _ _ _ _ _ _ _ _ _ _ _ _ _ _ _ _ _ _ _ _ _ _ _ _ _ _ _ _ _ _ _ _ _ _ _ _ _ _ _ _ _ _ _ _ _ _ _ _ _ _ _ _ _ _ _ _ _ _ _ _ _ _ _ _ _ _ _ _ _ _ _ _ _ _ _ _ _ _ _ _ _ _ _ _ _ _ _ _ _ _ _ _ _ _ _ _ _ _ _ _ _ _ _ _ _ _ _ _ _ _ _ _ _ _ _ _ _ _ _ _ _ _ _ _ _ _ _ _ _ _ _ _ _ _ _ _ _ _ _ _ _ _ _ _ _ _ _ _ _ _ _ _ _ _ _ _ _ _ _ _ _ _ _ _ _ _ _ _ _ _ _ _ _ _ _ _ _ _ _ _ _ _ _ _ _ _ _ _ _ _ _ _ _ _ _ _ _ _ _ _ _ _ _ _ _ _ _ _ _ _ _ _ _ _ _ _ _ _ _ _ _ _ _ _ _ _ _ _ _ _ _ _ w3 ht hn hs _ ?_ hM0
    intro v12 v13 v14 v15 u16 u17 u18 u19 u20 u21 u22 u23 u24 u25 u26 u27 u28 u29 u30 u31 u32 u33 u34 u35 u36 u37 u38 u39 u40 u41 u42 u43 u44 u45 u46 u47 u48 u49 u50 u51 u52 u53 u54 u55 u56 u57 u58 u59 u60 u61 u62 u63 u64 u65 u66 u67 u68 u69 u70 u71 u72 u73 u74 u75 u76 u77 u78 u79 u80 u81 u82 u83 u84 u85 u86 u87 u88 u89 u90 u91 u92 u93 u94 u95 u96 u97 u98 u99 u100 u101 u102 u103 u104 u105 u106 u107 u108 u109 u110 u111 u112 u113 u114 u115 u116 u117 u118 u119 u120 u121 u122 u123 u124 u125 u126 u127 u128 u129 u130 u131 u132 u133 u134 u135 u136 u137 u138 u139 u140 u141 u142 u143 u144 u145 u146 u147 u148 u149 u150 u151 u152 u153 u154 u155 u156 u157 u158 u159 u160 u161 u162 u163 u164 u165 u166 u167 u168 u169 u170 u171 u172 u173 u174 u175 u176 u177 u178 u179 u180 u181 u182 u183 u184 u185 u186 u187 u188 u189 u190 u191 u192 u193 u194 u195 u196 u197 u198 u199 u200 u201 u202 u203 u204 u205 u206 u207 u208 u209 u210 u211 u212 u213 u214 u215 u216 u217 u218 u219 u220 u221 u222 u223 u224 u225 u226 u227 u228 u229 u230 u231 u232 u233 u234 u235 u236 u237 u238 u239 u240 u241 u242 u243 u244 u245 u246 u247 u248 u249 u250 u251 u252 u253 u254 u255 u256 u257 u258 u259 u260 u261 u262 u263 u264 u265 u266 u267 u268 u269 u270 u271 u272 u273 u274 u275 u276 u277 u278 u279 u280 u281 u282 u283 u284 u285 u286 u287 u288 u289 u290 u291 u292 u293 u294 u295 u296 u297 u298 u299 u300 u301 u302 u303 u304 u305 u306 u307 u308 u309 u310 u311 u312 u313 u314 u315 u316 u317 u318 u319 u320 u321 u322 u323 u324 u325 u326 u327 u328 u329 u330 u331 u332 wx hF
    go_wp2
    go_meet
    case rel => exact hF
  case rest =>
    rename_i Kx hKx
    exact hKx _ _ (restT text pool start ops w' oa oc B1 B2 mb _ _ _ _ _ _ _ _ _ _ _ _ _ _ _ _ _ _ _ _ _ _ _ _ _ _ _ _ _ _ _ _ _ _ _ _ _ _ _ _ _ _ _ _ _ _ _ _ _ _ _ _ _ _ _ _ _ _ _ _ _ _ _ _ _ _ _ _ _ _ _ _ _ _ _ _ _ _ _ _ _ _ _ _ _ _ _ _ _ _ _ _ _ _ _ _ _ _ _ _ _ _ _ _ _ _ _ _ _ _ _ _ _ _ _ _ _ _ _ _ _ _ _ _ _ _ _ _ _ _ _ _ _ _ _ _ _ _ _ _ _ _ _ _ _ _ _ _ _ _ _ _ _ _ _ _ _ _ _ _ _ _ _ _ _ _ _ _ _ _ _ _ _ _ _ _ _ _ _ _ _ _ _ _ _ _ _ _ _ _ _ _ _ _ _ _ _ _ _ _ _ _ _ _ _ _ _ _ _ _ _ _ _ _ _ _ _ _ _ _ _ _ _ _ _ _ _ _ _ _ _ _ _ _ _ _ _ _ _ _ _ _ _ _ _ _ _ _ _ _ _ _ _ _ _ _ _ _ _ _ _ _ _ _ _ _ _ _ _ _ _ _ _ _ _ _ _ _ _ _ _ _ _ _ _ _ _ _ _ _ _ _ _ _ _ _ _ _ _ _ _ _ _ _ _ _ _ _ _ _ _ _ _ _ _ _ _ _ _ _ _ wc ht hn hs hcut)

end Go.Proofs.Qxb6003380a.fnValueBuilderScriptMatchesModel
