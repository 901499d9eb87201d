/- The script loop. -/
import Derived.Test.Qxb6003380aScInv
namespace Go.Proofs.Qxb6003380a.fnValueBuilderScriptMatchesModel
open Go Go.ChangeShapes Go.WideShapes Go.ChangeAt Go.RowKit
open Go.ChangeMaps (open_string shut_string)
set_option linter.unusedVariables false
open Vb Sc
set_option maxHeartbeats 8000000 in
set_option maxRecDepth 100000 in
theorem loopT (text pool : ByteArray) (start : Nat) (ops : List UInt8) (w' : World) (oa : Option Addr) (oc B1 B2 mb : Nat) (u19 u20 u21 u22 u23 u24 u25 u26 u27 u28 u29 u30 u31 u32 u33 u34 u35 u36 u37 u38 u39 u40 u41 u42 u43 u44 u45 u46 u47 u48 u49 u50 u51 u52 u53 u54 u55 u56 u57 u58 u59 u60 u61 u62 u63 u64 u65 u66 u67 u68 u69 u70 u71 u72 u73 u74 u75 u76 u77 u78 u79 u80 u81 u82 u83 u84 u85 u86 u87 u88 u89 u90 u91 u92 u93 u94 u95 u96 u97 u98 u99 u100 u101 u102 u103 u104 u105 u106 u107 u108 u109 u110 u111 u112 u113 u114 u115 u116 u117 u118 u119 u120 u121 u122 u123 u124 u125 u126 u127 u128 u129 u130 u131 u132 u133 u134 u135 u136 u137 u138 u139 u140 u141 u142 u143 u144 u145 u146 u147 u148 u149 u150 u151 u152 u153 u154 u155 u156 u157 u158 u159 u160 u161 u162 u163 u164 u165 u166 u167 u168 u169 u170 u171 u172 u173 u174 u175 u176 u177 u178 u179 u180 u181 u182 u183 u184 u185 u186 u187 u188 u189 u190 u191 u192 u193 u194 u195 u196 u197 u198 u199 u200 u201 u202 u203 u204 u205 u206 u207 u208 u209 u210 u211 u212 u213 u214 u215 u216 u217 u218 u219 u220 u221 u222 u223 u224 u225 u226 u227 u228 u229 u230 u231 u232 u233 u234 u235 u236 u237 u238 u239 u240 u241 u242 u243 u244 u245 u246 u247 u248 u249 u250 u251 u252 u253 u254 u255 u256 u257 u258 u259 u260 u261 u262 u263 u264 u265 u266 u267 u268 u269 u270 u271 u272 u273 u274 u275 u276 u277 u278 u279 u280 u281 u282 u283 u284 u285 u286 u287 u288 u289 u290 u291 u292 u293 u294 u295 u296 u297 u298 u299 u300 u301 u302 u303 u304 u305 u306 u307 u308 u309 u310 u311 u312 u313 u314 u315 u316 u317 u318 u319 u320 u321 u322 u323 u324 u325 u326 u327 u328 u329 u330 u331 u332 : Value) (w3 : World) (ht : text.size + ops.length + pool.size ≤ 1048576) (hn : ops.length ≤ 4096) (hs : start ≤ text.size) (Q0 : Exit → Act → World → Prop) (hX : ∀ (v12 v13 v14 v15 u16 u17 u18 u19 u20 u21 u22 u23 u24 u25 u26 u27 u28 u29 u30 u31 u32 u33 u34 u35 u36 u37 u38 u39 u40 u41 u42 u43 u44 u45 u46 u47 u48 u49 u50 u51 u52 u53 u54 u55 u56 u57 u58 u59 u60 u61 u62 u63 u64 u65 u66 u67 u68 u69 u70 u71 u72 u73 u74 u75 u76 u77 u78 u79 u80 u81 u82 u83 u84 u85 u86 u87 u88 u89 u90 u91 u92 u93 u94 u95 u96 u97 u98 u99 u100 u101 u102 u103 u104 u105 u106 u107 u108 u109 u110 u111 u112 u113 u114 u115 u116 u117 u118 u119 u120 u121 u122 u123 u124 u125 u126 u127 u128 u129 u130 u131 u132 u133 u134 u135 u136 u137 u138 u139 u140 u141 u142 u143 u144 u145 u146 u147 u148 u149 u150 u151 u152 u153 u154 u155 u156 u157 u158 u159 u160 u161 u162 u163 u164 u165 u166 u167 u168 u169 u170 u171 u172 u173 u174 u175 u176 u177 u178 u179 u180 u181 u182 u183 u184 u185 u186 u187 u188 u189 u190 u191 u192 u193 u194 u195 u196 u197 u198 u199 u200 u201 u202 u203 u204 u205 u206 u207 u208 u209 u210 u211 u212 u213 u214 u215 u216 u217 u218 u219 u220 u221 u222 u223 u224 u225 u226 u227 u228 u229 u230 u231 u232 u233 u234 u235 u236 u237 u238 u239 u240 u241 u242 u243 u244 u245 u246 u247 u248 u249 u250 u251 u252 u253 u254 u255 u256 u257 u258 u259 u260 u261 u262 u263 u264 u265 u266 u267 u268 u269 u270 u271 u272 u273 u274 u275 u276 u277 u278 u279 u280 u281 u282 u283 u284 u285 u286 u287 u288 u289 u290 u291 u292 u293 u294 u295 u296 u297 u298 u299 u300 u301 u302 u303 u304 u305 u306 u307 u308 u309 u310 u311 u312 u313 u314 u315 u316 u317 u318 u319 u320 u321 u322 u323 u324 u325 u326 u327 u328 u329 u330 u331 u332 : Value) (wx : World), Fin w' text start ops (.slice oa ops.length oc) B1 B2 mb v12 v13 v14 v15 wx → Q0 (.exit 0) ⟨List.toArray (.string text :: .int .i64 (start : Int) :: .slice oa ops.length oc :: .string pool :: undef :: undef :: undef :: undef :: .bool false :: .pointer (some ⟨mb, 0, none⟩) :: .pointer (some ⟨B1, 0, none⟩) :: .pointer (some ⟨B2, 0, none⟩) :: v12 :: v13 :: v14 :: v15 :: u16 :: u17 :: u18 :: u19 :: u20 :: u21 :: u22 :: u23 :: u24 :: u25 :: u26 :: u27 :: u28 :: u29 :: u30 :: u31 :: u32 :: u33 :: u34 :: u35 :: u36 :: u37 :: u38 :: u39 :: u40 :: u41 :: u42 :: u43 :: u44 :: u45 :: u46 :: u47 :: u48 :: u49 :: u50 :: u51 :: u52 :: u53 :: u54 :: u55 :: u56 :: u57 :: u58 :: u59 :: u60 :: u61 :: u62 :: u63 :: u64 :: u65 :: u66 :: u67 :: u68 :: u69 :: u70 :: u71 :: u72 :: u73 :: u74 :: u75 :: u76 :: u77 :: u78 :: u79 :: u80 :: u81 :: u82 :: u83 :: u84 :: u85 :: u86 :: u87 :: u88 :: u89 :: u90 :: u91 :: u92 :: u93 :: u94 :: u95 :: u96 :: u97 :: u98 :: u99 :: u100 :: u101 :: u102 :: u103 :: u104 :: u105 :: u106 :: u107 :: u108 :: u109 :: u110 :: u111 :: u112 :: u113 :: u114 :: u115 :: u116 :: u117 :: u118 :: u119 :: u120 :: u121 :: u122 :: u123 :: u124 :: u125 :: u126 :: u127 :: u128 :: u129 :: u130 :: u131 :: u132 :: u133 :: u134 :: u135 :: u136 :: u137 :: u138 :: u139 :: u140 :: u141 :: u142 :: u143 :: u144 :: u145 :: u146 :: u147 :: u148 :: u149 :: u150 :: u151 :: u152 :: u153 :: u154 :: u155 :: u156 :: u157 :: u158 :: u159 :: u160 :: u161 :: u162 :: u163 :: u164 :: u165 :: u166 :: u167 :: u168 :: u169 :: u170 :: u171 :: u172 :: u173 :: u174 :: u175 :: u176 :: u177 :: u178 :: u179 :: u180 :: u181 :: u182 :: u183 :: u184 :: u185 :: u186 :: u187 :: u188 :: u189 :: u190 :: u191 :: u192 :: u193 :: u194 :: u195 :: u196 :: u197 :: u198 :: u199 :: u200 :: u201 :: u202 :: u203 :: u204 :: u205 :: u206 :: u207 :: u208 :: u209 :: u210 :: u211 :: u212 :: u213 :: u214 :: u215 :: u216 :: u217 :: u218 :: u219 :: u220 :: u221 :: u222 :: u223 :: u224 :: u225 :: u226 :: u227 :: u228 :: u229 :: u230 :: u231 :: u232 :: u233 :: u234 :: u235 :: u236 :: u237 :: u238 :: u239 :: u240 :: u241 :: u242 :: u243 :: u244 :: u245 :: u246 :: u247 :: u248 :: u249 :: u250 :: u251 :: u252 :: u253 :: u254 :: u255 :: u256 :: u257 :: u258 :: u259 :: u260 :: u261 :: u262 :: u263 :: u264 :: u265 :: u266 :: u267 :: u268 :: u269 :: u270 :: u271 :: u272 :: u273 :: u274 :: u275 :: u276 :: u277 :: u278 :: u279 :: u280 :: u281 :: u282 :: u283 :: u284 :: u285 :: u286 :: u287 :: u288 :: u289 :: u290 :: u291 :: u292 :: u293 :: u294 :: u295 :: u296 :: u297 :: u298 :: u299 :: u300 :: u301 :: u302 :: u303 :: u304 :: u305 :: u306 :: u307 :: u308 :: u309 :: u310 :: u311 :: u312 :: u313 :: u314 :: u315 :: u316 :: u317 :: u318 :: u319 :: u320 :: u321 :: u322 :: u323 :: u324 :: u325 :: u326 :: u327 :: u328 :: u329 :: u330 :: u331 :: u332 :: List.nil), []⟩ wx) (hM0 : MInv w' text start ops (.slice oa ops.length oc) B1 B2 mb (.slice none 0 0) (.slice none 0 0) (.slice none 0 0) (.slice none 0 0) (.int .i64 (start : Int)) (.int .i64 0) (.int .i64 0) w3) :
    Code.wp Try.prog (.loop ((Try.f9.body.bind firstLoop).getD .skip)) Q0 ⟨List.toArray (.string text :: .int .i64 (start : Int) :: .slice oa ops.length oc :: .string pool :: undef :: undef :: undef :: undef :: .bool false :: .pointer (some ⟨mb, 0, none⟩) :: .pointer (some ⟨B1, 0, none⟩) :: .pointer (some ⟨B2, 0, none⟩) :: .slice none 0 0 :: .slice none 0 0 :: .slice none 0 0 :: .slice none 0 0 :: .int .i64 (start : Int) :: .int .i64 0 :: .int .i64 0 :: u19 :: u20 :: u21 :: u22 :: u23 :: u24 :: u25 :: u26 :: u27 :: u28 :: u29 :: u30 :: u31 :: u32 :: u33 :: u34 :: u35 :: u36 :: u37 :: u38 :: u39 :: u40 :: u41 :: u42 :: u43 :: u44 :: u45 :: u46 :: u47 :: u48 :: u49 :: u50 :: u51 :: u52 :: u53 :: u54 :: u55 :: u56 :: u57 :: u58 :: u59 :: u60 :: u61 :: u62 :: u63 :: u64 :: u65 :: u66 :: u67 :: u68 :: u69 :: u70 :: u71 :: u72 :: u73 :: u74 :: u75 :: u76 :: u77 :: u78 :: u79 :: u80 :: u81 :: u82 :: u83 :: u84 :: u85 :: u86 :: u87 :: u88 :: u89 :: u90 :: u91 :: u92 :: u93 :: u94 :: u95 :: u96 :: u97 :: u98 :: u99 :: u100 :: u101 :: u102 :: u103 :: u104 :: u105 :: u106 :: u107 :: u108 :: u109 :: u110 :: u111 :: u112 :: u113 :: u114 :: u115 :: u116 :: u117 :: u118 :: u119 :: u120 :: u121 :: u122 :: u123 :: u124 :: u125 :: u126 :: u127 :: u128 :: u129 :: u130 :: u131 :: u132 :: u133 :: u134 :: u135 :: u136 :: u137 :: u138 :: u139 :: u140 :: u141 :: u142 :: u143 :: u144 :: u145 :: u146 :: u147 :: u148 :: u149 :: u150 :: u151 :: u152 :: u153 :: u154 :: u155 :: u156 :: u157 :: u158 :: u159 :: u160 :: u161 :: u162 :: u163 :: u164 :: u165 :: u166 :: u167 :: u168 :: u169 :: u170 :: u171 :: u172 :: u173 :: u174 :: u175 :: u176 :: u177 :: u178 :: u179 :: u180 :: u181 :: u182 :: u183 :: u184 :: u185 :: u186 :: u187 :: u188 :: u189 :: u190 :: u191 :: u192 :: u193 :: u194 :: u195 :: u196 :: u197 :: u198 :: u199 :: u200 :: u201 :: u202 :: u203 :: u204 :: u205 :: u206 :: u207 :: u208 :: u209 :: u210 :: u211 :: u212 :: u213 :: u214 :: u215 :: u216 :: u217 :: u218 :: u219 :: u220 :: u221 :: u222 :: u223 :: u224 :: u225 :: u226 :: u227 :: u228 :: u229 :: u230 :: u231 :: u232 :: u233 :: u234 :: u235 :: u236 :: u237 :: u238 :: u239 :: u240 :: u241 :: u242 :: u243 :: u244 :: u245 :: u246 :: u247 :: u248 :: u249 :: u250 :: u251 :: u252 :: u253 :: u254 :: u255 :: u256 :: u257 :: u258 :: u259 :: u260 :: u261 :: u262 :: u263 :: u264 :: u265 :: u266 :: u267 :: u268 :: u269 :: u270 :: u271 :: u272 :: u273 :: u274 :: u275 :: u276 :: u277 :: u278 :: u279 :: u280 :: u281 :: u282 :: u283 :: u284 :: u285 :: u286 :: u287 :: u288 :: u289 :: u290 :: u291 :: u292 :: u293 :: u294 :: u295 :: u296 :: u297 :: u298 :: u299 :: u300 :: u301 :: u302 :: u303 :: u304 :: u305 :: u306 :: u307 :: u308 :: u309 :: u310 :: u311 :: u312 :: u313 :: u314 :: u315 :: u316 :: u317 :: u318 :: u319 :: u320 :: u321 :: u322 :: u323 :: u324 :: u325 :: u326 :: u327 :: u328 :: u329 :: u330 :: u331 :: u332 :: List.nil), []⟩ w3 := by
  obtain ⟨i5, hi5, hx0, hx1, hx2⟩ := info_parts info5
  obtain ⟨i3, hi3, hy0, hy1, hy2⟩ := info_parts info3
  have b1 : decide ((start : Int) < 0) = false := by simp
  have b2 : decide ((text.size : Int) < start) = false := by simp; omega
  conv => arg 2; arg 1; whnf
  go_loopw [12, 13, 14, 15, 16, 17, 18] (fun v12 v13 v14 v15 v16 v17 v18 wr => MInv w' text start ops (.slice oa ops.length oc) B1 B2 mb v12 v13 v14 v15 v16 v17 v18 wr) (fun _ _ _ _ _ _ v18 _ => ops.length - (intOf v18).toNat)
  case atStart => exact hM0
  case round =>
    obtain ⟨f, k, i, c, want, src, aA, aF, ms, cp, nx, hk, hG, rfl, rfl, rfl, hA⟩ := hrel
    have hi1 := hG.hi
    have hm1 := hG.hm
    have hw1 := hG.hw
    have hs1 : src.length ≤ 4 * k := by have := hG.hs; omega
    have ha1 := hG.ha
    have hf1 : aF.length ≤ k := by have := hG.hf; have := hG.ha; omega
    have hc1 := hG.hc
    obtain ⟨a12, c12, rfl⟩ := hA.r12.form
    obtain ⟨a13, c13, rfl⟩ := hA.r13.form
    obtain ⟨a14, c14, rfl⟩ := hA.r14.form
    obtain ⟨a15, c15, rfl⟩ := hA.r15.form
    have HG : Hid _ := hG
    have HA : Hid _ := hA
    clear hG hA
    by_cases hlt : k < ops.length
    · obtain ⟨g, gc, hov, -, hgl⟩ := HA.out.ro.1.form (by omega)
      have hov1 : oa = some ⟨g, 0, none⟩ := by simp at hov; exact hov.1
      subst hov1
      have co : wr.cell? ⟨g, k, none⟩ = some (.int .u8 ((ops[k]'hlt).toNat : Int)) := by
        rw [row_cell HA.out.ro k hlt]
        simp [bcells, List.getElem?_eq_getElem hlt]
      clear hov
      have hkn : (k : Int) < (ops.length : Int) := by omega
      by_cases ho : ((ops[k]'hlt).toNat : Int) = 0
      · have ho' : (((ops[k]'hlt).toNat : Int) == 0) = true := by simpa using ho
        clear ho
        by_cases hit : i < text.size
        · as_aux_lemma =>
            -- a byte is kept
            have hit' : (i : Int) < text.size := by omega
            go_wp2_with fail
            refine (HA.out.b.keep i hit (fun h => (HG.out.plain h).2) (by omega) (by omega) (by omega)).mono ?_
            rintro r w4 ⟨rfl, f4, hb4, hs4⟩
            have HA4 : Hid _ := HA.out.onB hb4 hs4
            clear hb4 hs4
            go_wp2_with fail
            refine (HA4.out.q.keep i hit (fun h => (HG.out.plain h).2) (by omega) (by omega) (by omega)).mono ?_
            rintro r w5 ⟨rfl, f5, hb5, hs5⟩
            have HA5 : Hid _ := HA4.out.onQ hb5 hs5
            clear hb5 hs5
            go_wp2_with (at_builtin; refine wpList_append_lies _ rfl _ _ 31 rfl 0 5 i5 (.int .u8 0) 1 1 Try.underlying31 hi5 hx0 hx1 hx2 rfl (by decide) _ _ _ rfl (HA5.out.r12.1.alloc _) ⟨w5.heap.size, 0, none⟩ 1 1 [.int .u8 (text[i].toNat : Int)] rfl rfl ?c1 ?c2 (by decide) ?c3 ?c4 (Nat.zero_le _) _ rfl ?_)
            case c1 => exact cell_one_new _ _ _
            case c2 => exact one_u8 _
            case c3 => unfold maxLen; omega
            case c4 => omega
            intro gx ex w6 ho hg ht2 _
            obtain ⟨hr, hst⟩ := row_append1 (j := 30) HA5.out.r12 ho hg (at_of3 (by simpa using ht2))
            have HA6 : Hid _ := HA5.out.on12 (want' := want ++ [text[i]]) (by rw [bcells_append, List.length_append]; exact hr) hst
            clear ho hg ht2 hr hst
            go_wp2_with (at_builtin; refine wpList_append_lies _ rfl _ _ 27 rfl 0 3 i3 (.int .i64 0) 1 8 Try.underlying27 hi3 hy0 hy1 hy2 rfl (by decide) _ _ _ rfl (HA6.out.r13.1.alloc _) ⟨w6.heap.size, 0, none⟩ 1 1 [.int .i64 (i : Int)] rfl rfl ?c1 ?c2 (by decide) ?c3 ?c4 (Nat.zero_le _) _ rfl ?_)
            case c1 => exact cell_one_new _ _ _
            case c2 => exact one_i64 _
            case c3 => unfold maxLen; omega
            case c4 => omega
            intro gx ex w7 ho hg ht2 _
            obtain ⟨hr, hst⟩ := row_append1 (j := 31) HA6.out.r13 ho hg (at_of3 (by simpa using ht2))
            have HA7 : Hid _ := HA6.out.on13 (src' := src ++ [(i : Int)]) (by rw [icells_append, List.length_append]; exact hr) hst
            clear ho hg ht2 hr hst
            have hM1 : ∀ v16 v18, v16 = .int .i64 ((i : Int) + 1) → v18 = .int .i64 ((k : Int) + 1) → MInv w' text start ops (.slice (some ⟨g, 0, none⟩) ops.length oc) B1 B2 mb _ _ _ _ v16 (.int .i64 (c : Int)) v18 w7 := fun v16 v18 e16 e18 =>
              ⟨_, k + 1, i + 1, c, want ++ [text[i]], src ++ [(i : Int)], aA, aF, keepM ms nx i want.length, cp, (i : Int) + 1, by omega, HG.out.keep hit, by rw [e16]; congr 1, rfl, by rw [e18]; congr 1, HA7.out⟩
            have HM1 : Hid _ := hM1
            clear hM1 HA HA4 HA5 HA6 HA7
            go_wp2
            go_roundw
            case rel => exact HM1.out _ _ (by go_num) (by go_num)
            case measure => simp [intOf]; omega
        · -- the text is at its end
          have hF : Fin w' text start ops (.slice (some ⟨g, 0, none⟩) ops.length oc) B1 B2 mb (.slice a12 want.length c12) (.slice a13 src.length c13) (.slice a14 aA.length c14) (.slice a15 aF.length c15) wr := ⟨f, k, i, c, want, src, aA, aF, ms, cp, nx, hk, HG.out, HA.out⟩
          have hit' : ¬ (i : Int) < text.size := by omega
          have HF : Hid _ := hF
          clear hF HG HA
          go_wp2
          exact HF.out
      · -- a replacement
        have ho' : (((ops[k]'hlt).toNat : Int) == 0) = false := by simpa using ho
        have hou : (ops[k]'hlt).toNat < 256 := (ops[k]'hlt).toNat_lt
        clear ho
        by_cases hfit : (((ops[k]'hlt).toNat : Int) % 8 + 1) ≤ (text.size : Int) - (i : Int)
        · as_aux_lemma =>
            obtain ⟨N, hN⟩ : ∃ N : Nat, ((N : Nat) : Int) = ((ops[k]'hlt).toNat : Int) % 8 + 1 := ⟨(ops[k]'hlt).toNat % 8 + 1, by omega⟩
            obtain ⟨M, hM⟩ : ∃ M : Nat, ((M : Nat) : Int) = ((ops[k]'hlt).toNat : Int) / 8 % 4 + 1 := ⟨(ops[k]'hlt).toNat / 8 % 4 + 1, by omega⟩
            have hN1 : 1 ≤ N := by omega
            have hN2 : N ≤ 8 := by omega
            have hM1 : 1 ≤ M := by omega
            have hM2 : M ≤ 4 := by omega
            have hNi : (i : Int) + (N : Int) ≤ text.size := by omega
            have HN : Hid _ := hN
            have HMM : Hid _ := hM
            clear hN hM
            go_upto_region 33 with fail
            rw [← HN.out, ← HMM.out]
            go_wp2_with (refine wpList_make_full _ rfl _ _ 31 rfl 0 5 i5 (.int .u8 0) 1 Try.underlying31 hi5 hx0 hx1 .i64 .i64 (M : Int) (M : Int) M rfl rfl rfl rfl ?c1 ?c2 (Nat.zero_le _) ?_)
            case c1 => rw [hx2]; omega
            case c2 => unfold maxLen; omega
            intro w4 hown hg
            obtain ⟨R, hR⟩ : ∃ R, R = wr.heap.size := ⟨_, rfl⟩
            rw [← hR] at hown ⊢
            have hrow : Row (ext f wr.heap.size 34) 34 w4 5 1 (.slice (some ⟨R, 0, none⟩) M M) M (bcells [] ++ List.replicate (M - 0) (.int .u8 0)) := by
              rw [toList_madeCells_one] at hown
              refine ⟨by simpa [bcells] using hown, fun k hk => ?_⟩
              have : k = R := by simp [Value.ownBlock] at hk; exact hk.symm
              rw [this, hR]; exact ext_new (Nat.le_refl _)
            have hs4 : Step f (fun i => i = 34) wr w4 (ext f wr.heap.size 34) := ((Step.refl f (fun i => i = 34) wr).grown hg (fun k hk => by cases hk)).extend 34
            have HR0 : Hid (RInv w' text start ops (.slice (some ⟨g, 0, none⟩) ops.length oc) B1 B2 mb c M R cp want nx ms src aA aF (.slice a12 want.length c12) (.slice a13 src.length c13) (.slice a14 aA.length c14) (.slice a15 aF.length c15) (.int .i64 (c : Int)) (.int .i64 0) w4) :=
              ⟨_, 0, [], Nat.zero_le _, rfl, by simp, rfl, HA.out.quiet hs4 (fun i hi => hi.symm), hrow⟩
            clear hown hg hrow hs4 hR HA
            go_wp2_with fail
            go_loopw [17, 23] (fun v17 v23 wq => RInv w' text start ops (.slice (some ⟨g, 0, none⟩) ops.length oc) B1 B2 mb c M R cp want nx ms src aA aF (.slice a12 want.length c12) (.slice a13 src.length c13) (.slice a14 aA.length c14) (.slice a15 aF.length c15) v17 v23 wq) (fun _ v23 _ => M - (intOf v23).toNat)
            case atStart => exact HR0.out
            case round =>
              clear HR0
              obtain ⟨fq, q, rl, hq, hrl, rfl, rfl, hA, hrr⟩ := hrel
              have HA : Hid _ := hA
              have HR : Hid _ := hrr
              have HL : Hid _ := hrl
              clear hA hrr hrl
              by_cases hqM : q < M
              · as_aux_lemma =>
                  have cq : ∃ u, wr.cell? ⟨R, q, none⟩ = some u := by
                    rw [row_cell HR.out q hqM]
                    have : q < (bcells rl ++ List.replicate (M - q) (Value.int .u8 0)).length := by simp [bcells_length, HL.out]; omega
                    exact ⟨_, List.getElem?_eq_getElem this⟩
                  obtain ⟨uq, cq⟩ := cq
                  have fq' := HR.out.1.frozenAt q
                  have hqi : (q : Int) < (M : Int) := by omega
                  by_cases hp0 : pool.size = 0
                  · have hp1 : ((pool.size : Int) == 0) = true := by rw [beq_iff_eq]; omega
                    clear hp0
                    go_wp2_with fail
                    go_roundw
                    case rel => exact RInv.store hqM HL.out HA.out HR.out 32
                    case measure => simp [intOf]; omega
                  · have hp1 : ((pool.size : Int) == 0) = false := by rw [beq_eq_false_iff_ne]; omega
                    have hp2 : 1 ≤ (pool.size : Int) := by omega
                    have hpm : (c + q) % pool.size < pool.size := Nat.mod_lt _ (by omega)
                    have hpi : ((c : Int) + (q : Int)) % (pool.size : Int) < (pool.size : Int) := Int.emod_lt_of_pos _ (by omega)
                    have hpj : 0 ≤ ((c : Int) + (q : Int)) % (pool.size : Int) := Int.emod_nonneg _ (by omega)
                    clear hp0
                    go_wp2_with fail
                    go_roundw
                    case rel => exact RInv.store hqM HL.out HA.out HR.out (pool[(c + q) % pool.size])
                    case measure => simp [intOf]; omega
              · as_aux_lemma =>
                  have hqe : M = q := by omega
                  subst hqe
                  have hrow := HR.out
                  rw [Nat.sub_self, List.replicate_zero, List.append_nil] at hrow
                  have HR2 : Hid _ := hrow
                  clear hrow HR hqM
                  go_wp2_with (at_builtin; refine wpList_append_lies _ rfl _ _ 27 rfl 0 3 i3 (.int .i64 0) 1 8 Try.underlying27 hi3 hy0 hy1 hy2 rfl (by decide) _ _ _ rfl (HA.out.r14.1.alloc _) ⟨wr.heap.size, 0, none⟩ 1 1 [.int .i64 (want.length : Int)] rfl rfl ?c1 ?c2 (by decide) ?c3 ?c4 (Nat.zero_le _) _ rfl ?_)
                  case c1 => exact cell_one_new _ _ _
                  case c2 => exact one_i64 _
                  case c3 => unfold maxLen; omega
                  case c4 => omega
                  intro gy ey w5 ho hg ht2 _
                  obtain ⟨hr, hst⟩ := row_append1 (j := 32) HA.out.r14 ho hg (at_of3 (by simpa using ht2))
                  have HB1 : Hid _ := HA.out.on14 (aA' := aA ++ [(want.length : Int)]) (by rw [icells_append, List.length_append]; exact hr) hst
                  have HR5 : Hid _ := Row.step (j := 34) HR2.out hst (by omega)
                  clear ho hg ht2 hr hst
                  go_wp2_with (at_builtin; refine wpList_append_lies _ rfl _ _ 27 rfl 0 3 i3 (.int .i64 0) 1 8 Try.underlying27 hi3 hy0 hy1 hy2 rfl (by decide) _ _ _ rfl (HB1.out.r15.1.alloc _) ⟨w5.heap.size, 0, none⟩ 1 1 [.int .i64 (i : Int)] rfl rfl ?c1 ?c2 (by decide) ?c3 ?c4 (Nat.zero_le _) _ rfl ?_)
                  case c1 => exact cell_one_new _ _ _
                  case c2 => exact one_i64 _
                  case c3 => unfold maxLen; omega
                  case c4 => omega
                  intro gx ex w6 ho hg ht2 _
                  obtain ⟨hr, hst⟩ := row_append1 (j := 33) HB1.out.r15 ho hg (at_of3 (by simpa using ht2))
                  have HB2 : Hid _ := HB1.out.on15 (aF' := aF ++ [(i : Int)]) (by rw [icells_append, List.length_append]; exact hr) hst
                  have HR6 : Hid _ := Row.step (j := 34) HR5.out hst (by omega)
                  clear ho hg ht2 hr hst
                  have hcv6 : (convert 31 9 (.slice (some ⟨R, 0, none⟩) M M)).run Try.prog w6 = .ok (.string ⟨rl.toArray⟩) w6 := conv_row (j := 34) (f := _) (by rw [HL.out]; exact HR6.out)
                  have hrs : (ByteArray.mk rl.toArray).size ≤ 2097152 := by show rl.toArray.size ≤ 2097152; rw [List.size_toArray, HL.out]; omega
                  go_wp2_with fail
                  refine (HB2.out.b.add i i ⟨rl.toArray⟩ (fun h => HG.out.plain h) (fun h => HG.out.hi) (by omega) hrs (by omega) (by omega)).mono ?_
                  rintro r w7 ⟨rfl, f7, hb7, hs7⟩
                  have HB3 : Hid _ := HB2.out.onB hb7 hs7
                  have HR7 : Hid _ := Row.step (j := 34) HR6.out hs7 (by unfold Of; omega)
                  clear hb7 hs7 hcv6
                  have hcv7 : (convert 31 9 (.slice (some ⟨R, 0, none⟩) M M)).run Try.prog w7 = .ok (.string ⟨rl.toArray⟩) w7 := conv_row (j := 34) (f := _) (by rw [HL.out]; exact HR7.out)
                  go_wp2_with fail
                  refine (HB3.out.q.add i i ⟨rl.toArray⟩ (fun h => HG.out.plain h) (fun h => HG.out.hi) (by omega) hrs (by omega) (by omega)).mono ?_
                  rintro r w8 ⟨rfl, f8, hb8, hs8⟩
                  have HB4 : Hid _ := HB3.out.onQ hb8 hs8
                  have HR8 : Hid _ := Row.step (j := 34) HR7.out hs8 (by unfold Of; omega)
                  clear hb8 hs8 hcv7 hrs HR2 HR5 HR6 HR7 HA HB1 HB2 HB3
                  obtain ⟨v14', hv14⟩ : ∃ v : Value, v = .slice (some ⟨gy, 0, none⟩) (aA.length + 1) ey := ⟨_, rfl⟩
                  obtain ⟨v15', hv15⟩ : ∃ v : Value, v = .slice (some ⟨gx, 0, none⟩) (aF.length + 1) ex := ⟨_, rfl⟩
                  have hW0 : WInv w' text start ops (.slice (some ⟨g, 0, none⟩) ops.length oc) B1 B2 mb M R (want ++ rl) (ms ++ [((want.length : Int), (i : Int))]) rl want src (aA ++ [(want.length : Int)]) (aF ++ [(i : Int)]) (.slice a12 want.length c12) (.slice a13 src.length c13) v14' v15' (.int .i64 0) w8 :=
                    ⟨_, 0, Nat.zero_le _, rfl, by rw [hv14, hv15]; simpa using HB4.out, HR8.out⟩
                  rw [← hv14, ← hv15]
                  have HW0 : Hid _ := hW0
                  clear hW0 hv14 hv15 HB4 HR8
                  go_wp2_with fail
                  go_loopw [12, 13, 24] (fun v12 v13 v24 wq => WInv w' text start ops (.slice (some ⟨g, 0, none⟩) ops.length oc) B1 B2 mb M R (want ++ rl) (ms ++ [((want.length : Int), (i : Int))]) rl want src (aA ++ [(want.length : Int)]) (aF ++ [(i : Int)]) v12 v13 v14' v15' v24 wq) (fun _ _ v24 _ => M - (intOf v24).toNat)
                  case atStart => exact HW0.out
                  case round =>
                    clear HW0
                    obtain ⟨fz, q, hq, rfl, hA, hrr⟩ := hrel
                    obtain ⟨b12, d12, hb12⟩ := hA.r12.form
                    obtain ⟨b13, d13, hb13⟩ := hA.r13.form
                    have hl12 : (want ++ rl.take q).length = want.length + q := by rw [List.length_append, List.length_take, HL.out]; omega
                    have hl13 : (src ++ List.replicate q (-1 : Int)).length = src.length + q := by simp
                    rw [hl12] at hb12
                    rw [hl13] at hb13
                    rw [hb12, hb13]
                    rw [hb12, hb13] at hA
                    have HA : Hid _ := hA
                    have HR : Hid _ := hrr
                    have H12 : Hid _ := hl12
                    have H13 : Hid _ := hl13
                    clear hA hrr hl12 hl13 hb12 hb13
                    by_cases hqM : q < M
                    · as_aux_lemma =>
                        have hqr : q < rl.length := by rw [HL.out]; exact hqM
                        have cq : wr.cell? ⟨R, q, none⟩ = some (.int .u8 ((rl[q]'hqr).toNat : Int)) := by
                          rw [row_cell (j := 34) HR.out q hqM]
                          simp [bcells, List.getElem?_eq_getElem hqr]
                        have hqi : (q : Int) < (M : Int) := by omega
                        have hR12 : Row fz 30 wr 5 1 (.slice b12 (want.length + q) d12) (want.length + q) (bcells (want ++ rl.take q)) := by have := HA.out.r12; rwa [H12.out] at this
                        have HR12 : Hid _ := hR12
                        clear hR12
                        go_wp2_with (at_builtin; refine wpList_append_lies _ rfl _ _ 31 rfl 0 5 i5 (.int .u8 0) 1 1 Try.underlying31 hi5 hx0 hx1 hx2 rfl (by decide) _ _ _ rfl (HR12.out.1.alloc _) ⟨wr.heap.size, 0, none⟩ 1 1 [.int .u8 ((rl[q]'hqr).toNat : Int)] rfl rfl ?c1 ?c2 (by decide) ?c3 ?c4 (Nat.zero_le _) _ rfl ?_)
                        case c1 => exact cell_one_new _ _ _
                        case c2 => exact one_u8 _
                        case c3 => unfold maxLen; omega
                        case c4 => omega
                        intro gw ew w9 ho hg ht2 _
                        obtain ⟨hr, hst⟩ := row_append1 (j := 30) HR12.out ho hg (at_of3 (by simpa using ht2))
                        have e12 : bcells (want ++ rl.take q) ++ [.int .u8 ((rl[q]'hqr).toNat : Int)] = bcells (want ++ rl.take (q + 1)) := by
                          rw [List.take_succ_eq_append_getElem hqr, ← List.append_assoc, bcells_append (want ++ rl.take q)]; rfl
                        have l12 : (want ++ rl.take (q + 1)).length = want.length + q + 1 := by rw [List.length_append, List.length_take, HL.out]; omega
                        have HB : Hid _ := HA.out.on12 (want' := want ++ rl.take (q + 1)) (by rw [l12, ← e12]; exact hr) hst
                        have HRb : Hid _ := Row.step (j := 34) HR.out hst (by omega)
                        have hR13 := HB.out.r13
                        rw [H13.out] at hR13
                        have HR13 : Hid _ := hR13
                        clear ho hg ht2 hr hst e12 l12 hR13 HA HR HR12
                        go_wp2_with (at_builtin; refine wpList_append_lies _ rfl _ _ 27 rfl 0 3 i3 (.int .i64 0) 1 8 Try.underlying27 hi3 hy0 hy1 hy2 rfl (by decide) _ _ _ rfl (HR13.out.1.alloc _) ⟨w9.heap.size, 0, none⟩ 1 1 [.int .i64 (-1)] rfl rfl ?c1 ?c2 (by decide) ?c3 ?c4 (Nat.zero_le _) _ rfl ?_)
                        case c1 => exact cell_one_new _ _ _
                        case c2 => exact one_i64 _
                        case c3 => unfold maxLen; omega
                        case c4 => omega
                        intro gv ev w10 ho hg ht2 _
                        obtain ⟨hr, hst⟩ := row_append1 (j := 31) HR13.out ho hg (at_of3 (by simpa using ht2))
                        have e13 : icells (src ++ List.replicate q (-1)) ++ [.int .i64 (-1)] = icells (src ++ List.replicate (q + 1) (-1)) := by
                          rw [List.replicate_succ', ← List.append_assoc, icells_append (src ++ List.replicate q (-1))]; rfl
                        have l13 : (src ++ List.replicate (q + 1) (-1 : Int)).length = src.length + q + 1 := by simp; omega
                        have HC2 : Hid _ := HB.out.on13 (src' := src ++ List.replicate (q + 1) (-1)) (by rw [l13, ← e13]; exact hr) hst
                        have HRc : Hid _ := Row.step (j := 34) HRb.out hst (by omega)
                        clear ho hg ht2 hr hst e13 l13 HB HRb HR13 H12 H13
                        go_wp2
                        go_roundw
                        case rel => exact ⟨_, q + 1, by omega, by go_num, HC2.out, HRc.out⟩
                        case measure => simp [intOf]; omega
                    · as_aux_lemma =>
                        have hqe : q = rl.length := by rw [HL.out]; omega
                        have hA2 := HA.out
                        rw [hqe, List.take_length] at hA2
                        have hG2 := HG.out.add (n := N) (by omega) rl (by rw [HL.out]; exact hM1) (by rw [HL.out]; exact hM2)
                        have hqe2 : q = M := by rw [hqe, HL.out]
                        have hM3 : ∀ v16 v17 v18, v16 = .int .i64 ((i : Int) + (N : Int)) → v17 = .int .i64 ((c : Int) + (M : Int)) → v18 = .int .i64 ((k : Int) + 1) → MInv w' text start ops (.slice (some ⟨g, 0, none⟩) ops.length oc) B1 B2 mb (.slice b12 (want.length + q) d12) (.slice b13 (src.length + q) d13) v14' v15' v16 v17 v18 wr := fun v16 v17 v18 e16 e17 e18 =>
                          ⟨_, k + 1, i + N, c + rl.length, want ++ rl, src ++ List.replicate rl.length (-1), _, _, _, true, -1, by omega, hG2, by rw [e16]; exact ival (by omega), by rw [e17, HL.out]; exact ival (by omega), by rw [e18]; exact ival (by omega), by rw [hqe]; exact hA2⟩
                        have HM3 : Hid _ := hM3
                        clear hM3 hA2 hG2 hqe hqe2 HA HR H12 H13
                        go_wp2
                        go_roundw
                        case rel => exact HM3.out _ _ _ (by go_num) (by go_num) (by go_num)
                        case measure => simp [intOf]; omega
        · -- no room for it
          have hF : Fin w' text start ops (.slice (some ⟨g, 0, none⟩) ops.length oc) B1 B2 mb (.slice a12 want.length c12) (.slice a13 src.length c13) (.slice a14 aA.length c14) (.slice a15 aF.length c15) wr := ⟨f, k, i, c, want, src, aA, aF, ms, cp, nx, hk, HG.out, HA.out⟩
          have HF : Hid _ := hF
          clear hF HG HA
          go_wp2
          exact HF.out
    · have hF : Fin w' text start ops (.slice oa ops.length oc) B1 B2 mb (.slice a12 want.length c12) (.slice a13 src.length c13) (.slice a14 aA.length c14) (.slice a15 aF.length c15) wr := ⟨f, k, i, c, want, src, aA, aF, ms, cp, nx, hk, HG.out, HA.out⟩
      have HF : Hid _ := hF
      clear hF HG HA
      go_wp2
      exact HF.out

end Go.Proofs.Qxb6003380a.fnValueBuilderScriptMatchesModel
