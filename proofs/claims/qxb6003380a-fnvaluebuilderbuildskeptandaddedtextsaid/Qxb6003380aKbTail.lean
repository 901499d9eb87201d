/- The last part of the claim's function: the two runs and what is asked of them. -/
import Derived.Test.Qxb6003380aKbBytes
import Derived.Test.Qxb6003380aElWalks
import Derived.Deep.DeepCutAuto
import Derived.Deep.CutBlock
namespace Go.Proofs.Qxb6003380a.Kb
open Go Go.RowKit Vb Sc
set_option linter.unusedVariables false

/-- the code of a spine from a region on -/
def fromR (n : Nat) : Code → Option Code
  | .seq (.region m o d) b => bif m == n then some (.seq (.region m o d) b) else fromR n b
  | .seq _ b => fromR n b
  | _ => none
/-- the region n of a spine, and what follows it -/
def hdR (n : Nat) (c : Code) : Option Code := match fromR n c with | some (.seq a _) => some a | _ => none
def tlR (n : Nat) (c : Code) : Option Code := match fromR n c with | some (.seq _ b) => some b | _ => none
theorem own_later {w w' : World} {e : TypeId} {size : Nat} {v : Value} {n : Nat} {xs : List Value} (h : w.ownsRow 0 e size v n xs) (hb : Below w.heap.size w w') : w'.ownsRow 0 e size v n xs :=
  ownsRow_same h fun k hk => hb.block k (h.lt k hk).2
theorem below_trans {w0 w1 w2 : World} (h : Below w0.heap.size w0 w1) (h2 : Below w1.heap.size w1 w2) : Below w0.heap.size w0 w2 :=
  ⟨h2.os.trans h.os, h2.tape.trans h.tape, h2.output.trans h.output, Nat.le_trans h.size h2.size, fun k hk => (h2.block k (Nat.lt_of_lt_of_le hk h.size)).trans (h.block k hk)⟩
theorem mcells_at : ∀ (ms : List (Int × Int)) (m : Nat), m < ms.length → (mcells ms)[m * 2]? = some (.int .i64 (at' ms m)) ∧ (mcells ms)[m * 2 + 1]? = some (.int .i64 (fr' ms m))
  | [], m, h => absurd h (by simp)
  | p :: r, 0, h => by simp [mcells, at', fr']
  | p :: r, m + 1, h => by
    have ih := mcells_at r m (by simpa using h)
    have e1 : (m + 1) * 2 = m * 2 + 2 := by omega
    simp only [mcells, List.flatMap_cons] at ih ⊢
    rw [e1]
    simpa [at', fr'] using ih
/-- the marks as they lie in memory -/
structure MK (wx : World) (g : Nat) (ms : List (Int × Int)) : Prop where
  a : ∀ m, m < ms.length → wx.cell? ⟨g, m * 2, none⟩ = some (.int .i64 (at' ms m))
  r : ∀ m, m < ms.length → wx.cell? ⟨g, m * 2 + 1, none⟩ = some (.int .i64 (fr' ms m))
theorem MK.later {w wx : World} {g : Nat} {ms : List (Int × Int)} (h : MK w g ms) (hb : Below w.heap.size w wx) : MK wx g ms :=
  ⟨fun m hm => (hb.cell (World.block_lt_of_cell? _ _ (h.a m hm))).trans (h.a m hm), fun m hm => (hb.cell (World.block_lt_of_cell? _ _ (h.r m hm))).trans (h.r m hm)⟩
theorem kal {w : World} {a : Addr} {o : Obj} {v : Value} (h : w.cell? a = some v) : (w.alloc o).cell? a = some v := (World.cell?_alloc_some w a o (by rw [h]; rfl)).trans h
theorem kd {w : World} {a : Addr} {v : Value} (h : w.cell? a = some v) : w.drew.cell? a = some v := h
theorem belN {w : World} (n : Nat) : Below w.heap.size w (w.drewN n) := ⟨rfl, rfl, rfl, Nat.le_refl _, fun _ _ => rfl⟩
theorem bela {w wx : World} (h : Below w.heap.size w wx) (o : Obj) : Below w.heap.size w (wx.alloc o) := h.alloc h.size o

set_option maxHeartbeats 4000000 in
set_option maxRecDepth 100000 in
theorem tailT (K : Act → World → Prop) (text : ByteArray) (start k : Nat) (adds : List ByteArray) (keeps : List Nat) (aa ka a14 : Option Addr) (ca ck c14 : Nat) (w0 wc : World) (u10 u11 u12 u13 u15 u16 u17 u18 u19 u20 u21 u22 u23 u24 u25 u26 u27 u28 u29 u30 u31 u32 u33 u34 u35 u36 u37 u38 u39 u40 u41 u42 u43 u44 u45 u46 u47 u48 u49 u50 u51 u52 u53 u54 u55 u56 u57 u58 u59 u60 u61 u62 u63 u64 u65 u66 u67 u68 u69 u70 u71 u72 u73 u74 u75 u76 u77 u78 u79 u80 u81 u82 u83 u84 u85 u86 u87 u88 u89 u90 u91 u92 u93 u94 u95 u96 u97 u98 u99 u100 u101 u102 u103 u104 u105 u106 u107 u108 u109 u110 u111 u112 u113 u114 u115 u116 u117 u118 u119 u120 u121 u122 u123 u124 u125 u126 u127 u128 u129 u130 u131 u132 u133 u134 u135 u136 u137 u138 u139 u140 u141 u142 u143 u144 u145 u146 u147 u148 u149 u150 u151 u152 u153 u154 u155 u156 u157 u158 u159 u160 u161 u162 u163 u164 u165 u166 u167 u168 u169 u170 u171 u172 u173 u174 u175 u176 u177 u178 u179 u180 u181 u182 u183 u184 u185 u186 u187 u188 u189 u190 u191 u192 u193 u194 u195 u196 u197 u198 u199 u200 u201 u202 u203 u204 u205 u206 u207 u208 u209 u210 u211 u212 u213 u214 u215 u216 u217 u218 u219 u220 u221 u222 u223 u224 u225 u226 u227 u228 u229 u230 u231 u232 u233 u234 u235 u236 u237 u238 u239 u240 u241 u242 u243 u244 u245 u246 u247 u248 u249 u250 u251 u252 u253 u254 u255 u256 u257 u258 u259 u260 u261 : Value)
    (hA : Strs wc aa adds) (hK : Nats wc ka keeps) (hW : wc.ownsRow 0 5 1 (.slice a14 (want3 text start k adds keeps).length c14) (want3 text start k adds keeps).length (bcells (want3 text start k adds keeps))) (hB : Below w0.heap.size w0 wc)
    (ht : text.size ≤ 1048576) (hs : start ≤ text.size) (hk : k ≤ text.size - start) (hkb : ∀ j, j < keeps.length → natAt keeps j < text.size) (hn : adds.length ≤ 65536) (hm : keeps.length ≤ 131072) (hsum : sumLen adds adds.length ≤ 1048576) (hwl : (want3 text start k adds keeps).length ≤ 2097152)
    (hKK : ∀ a w, Code.wp Try.prog ((Try.f4.body.bind (tlR 39)).getD .skip) (bodyPost Try.prog Try.f4 fun r w2 => r = .returned (.bool true) ∧ Below w0.heap.size w0 w2) a w → K a w) :
    Code.wp Try.prog ((Try.f4.body.bind (hdR 39)).getD .skip) (Exit.then K (bodyPost Try.prog Try.f4 fun r w2 => r = .returned (.bool true) ∧ Below w0.heap.size w0 w2)) ⟨List.toArray (.string text :: .int .i64 (start : Int) :: .int .i64 (k : Int) :: .slice aa adds.length ca :: .slice ka keeps.length ck :: undef :: undef :: undef :: undef :: undef :: u10 :: u11 :: u12 :: u13 :: .slice a14 (want3 text start k adds keeps).length c14 :: u15 :: u16 :: u17 :: u18 :: u19 :: u20 :: u21 :: u22 :: u23 :: u24 :: u25 :: u26 :: u27 :: u28 :: u29 :: u30 :: u31 :: u32 :: u33 :: u34 :: u35 :: u36 :: u37 :: u38 :: u39 :: u40 :: u41 :: u42 :: u43 :: u44 :: u45 :: u46 :: u47 :: u48 :: u49 :: u50 :: u51 :: u52 :: u53 :: u54 :: u55 :: u56 :: u57 :: u58 :: u59 :: u60 :: u61 :: u62 :: u63 :: u64 :: u65 :: u66 :: u67 :: u68 :: u69 :: u70 :: u71 :: u72 :: u73 :: u74 :: u75 :: u76 :: u77 :: u78 :: u79 :: u80 :: u81 :: u82 :: u83 :: u84 :: u85 :: u86 :: u87 :: u88 :: u89 :: u90 :: u91 :: u92 :: u93 :: u94 :: u95 :: u96 :: u97 :: u98 :: u99 :: u100 :: u101 :: u102 :: u103 :: u104 :: u105 :: u106 :: u107 :: u108 :: u109 :: u110 :: u111 :: u112 :: u113 :: u114 :: u115 :: u116 :: u117 :: u118 :: u119 :: u120 :: u121 :: u122 :: u123 :: u124 :: u125 :: u126 :: u127 :: u128 :: u129 :: u130 :: u131 :: u132 :: u133 :: u134 :: u135 :: u136 :: u137 :: u138 :: u139 :: u140 :: u141 :: u142 :: u143 :: u144 :: u145 :: u146 :: u147 :: u148 :: u149 :: u150 :: u151 :: u152 :: u153 :: u154 :: u155 :: u156 :: u157 :: u158 :: u159 :: u160 :: u161 :: u162 :: u163 :: u164 :: u165 :: u166 :: u167 :: u168 :: u169 :: u170 :: u171 :: u172 :: u173 :: u174 :: u175 :: u176 :: u177 :: u178 :: u179 :: u180 :: u181 :: u182 :: u183 :: u184 :: u185 :: u186 :: u187 :: u188 :: u189 :: u190 :: u191 :: u192 :: u193 :: u194 :: u195 :: u196 :: u197 :: u198 :: u199 :: u200 :: u201 :: u202 :: u203 :: u204 :: u205 :: u206 :: u207 :: u208 :: u209 :: u210 :: u211 :: u212 :: u213 :: u214 :: u215 :: u216 :: u217 :: u218 :: u219 :: u220 :: u221 :: u222 :: u223 :: u224 :: u225 :: u226 :: u227 :: u228 :: u229 :: u230 :: u231 :: u232 :: u233 :: u234 :: u235 :: u236 :: u237 :: u238 :: u239 :: u240 :: u241 :: u242 :: u243 :: u244 :: u245 :: u246 :: u247 :: u248 :: u249 :: u250 :: u251 :: u252 :: u253 :: u254 :: u255 :: u256 :: u257 :: u258 :: u259 :: u260 :: u261 :: List.nil), []⟩ wc := by
  conv => arg 2; whnf
  conv at hKK => intro a w; arg 1; arg 2; whnf
  obtain ⟨want, hwe⟩ : ∃ want, want = want3 text start k adds keeps := ⟨_, rfl⟩
  rw [← hwe] at hW hwl ⊢
  have R1 := run_any text start k adds keeps aa ka ca ck false wc hA hK ht hs hk hkb hn hm hsum
  rw [← hwe] at R1
  have HR1 : Hid _ := R1
  have HR2 : Hid (∀ wx, Below wc.heap.size wc wx → Calls Try.prog 16 #[.string text, .int .i64 (start : Int), .int .i64 (k : Int), .slice aa adds.length ca, .slice ka keeps.length ck, .bool true] wx fun r w' => Ran wx w' r start want true) := fun wx hb => by
    have := run_any text start k adds keeps aa ka ca ck true wx (hA.later hb) (hK.later hb) ht hs hk hkb hn hm hsum
    rwa [← hwe] at this
  have HW : Hid _ := hW
  have HB : Hid _ := hB
  clear R1 hW hB hA hK hkb hsum hwe hk
  go_wp2_with fail
  refine Calls.mono HR1.out ?_
  rintro r w1 ⟨vm1, rfl, hb1, -⟩
  go_wp2_with fail
  refine Calls.mono (HR2.out w1 hb1) ?_
  rintro r w2 ⟨vm, rfl, hb2, hms⟩
  obtain ⟨ms, hMR, hmo, hml⟩ := hms rfl
  clear hms HR1 HR2
  have hW2 := own_later HW.out (below_trans hb1 hb2)
  have hB2 : Below wc.heap.size wc w2 := below_trans hb1 hb2
  have hB02 : Below w0.heap.size w0 w2 := below_trans HB.out hB2
  have hse : (ByteArray.mk want.toArray).size = want.length := by simp [ByteArray.size]
  have hW3 : w2.ownsRow 0 5 1 (.slice a14 want.length c14) (ByteArray.mk want.toArray).size (Lib.strCells ⟨want.toArray⟩) := by rw [hse]; exact hW2
  have hmp := hMR.pos
  obtain ⟨gm, cm, hvm, -, -⟩ := hmo.form hmp
  subst hvm
  have hMK : MK w2 gm ms := ⟨fun m hm => by rw [hmo.cellAt (m * 2) (by omega)]; exact (mcells_at ms m hm).1, fun m hm => by rw [hmo.cellAt (m * 2 + 1) (by omega)]; exact (mcells_at ms m hm).2⟩
  have HW3 : Hid (w2.ownsRow 0 5 1 (.slice a14 want.length c14) (ByteArray.mk want.toArray).size (Lib.strCells ⟨want.toArray⟩)) := hW3
  have HMR : Hid (MR start want.length ms) := hMR
  have HMK : Hid (MK w2 gm ms) := hMK
  have HBB : Hid (Below w0.heap.size w0 w2) := hB02
  clear hW3 hMR hmo hB02 hb1 hb2 hB2 hW2 HW HB hMK
  have hsl : (ByteArray.mk want.toArray).size ≤ 2097152 := by rw [hse]; exact hwl
  clear hse
  go_wp2_with fail
  refine Calls.mono (fnElementNameIsLocalAndWrittenBare.same_any _ _ _ w2 hsl HW3.out) ?_
  rintro r w3 ⟨rfl, n1, rfl⟩
  go_wp2_with fail
  refine Calls.mono (fnElementNameIsLocalAndWrittenBare.same_any _ _ _ (w2.drewN n1) hsl (own_later HW3.out (belN n1))) ?_
  rintro r w4 ⟨rfl, n2, rfl⟩
  have hB4 : Below w2.heap.size w2 (w2.drewN (n1 + n2)) := belN _
  obtain ⟨w4, hw4⟩ : ∃ w4, w4 = w2.drewN (n1 + n2) := ⟨_, rfl⟩
  have hw5 : ((w2.drewN n1).drewN n2) = w4 := by rw [hw4]; simp
  rw [hw5]
  rw [← hw4] at hB4
  clear hw4 hw5
  have m0 := (HMK.out.later hB4).a 0 hmp
  have r0 := (HMK.out.later hB4).r 0 hmp
  rw [HMR.out.a0] at m0
  rw [HMR.out.f0] at r0
  simp only [Nat.zero_mul, Nat.zero_add] at m0 r0
  have hml1 : ((ms.length : Int) == 0) = false := by rw [beq_eq_false_iff_ne]; omega
  have hml2 : (0 : Int) < (ms.length : Int) := by omega
  go_wp2_with fail
  refine (at_any _ _ _).mono ?_
  rintro r w5 ⟨rfl, hw5⟩
  have hB5 : Below w2.heap.size w2 w5 := by rw [hw5]; exact hB4.alloc hB4.size _
  have m05 := (HMK.out.later hB5).a 0 hmp
  have r05 := (HMK.out.later hB5).r 0 hmp
  rw [HMR.out.a0] at m05
  rw [HMR.out.f0] at r05
  simp only [Nat.zero_mul, Nat.zero_add] at m05 r05
  clear hw5 m0 r0 hB4
  go_wp2_with fail
  refine (from_any _ _ _).mono ?_
  rintro r w6 ⟨rfl, hw6⟩
  have hB6 : Below w2.heap.size w2 w6 := by rw [hw6]; exact hB5.alloc hB5.size _
  clear hw6 m05 r05 hml1 hml2 hB5
  go_wp2_with fail
  go_loopw [24] (fun v24 wr => ∃ m : Nat, 1 ≤ m ∧ m ≤ ms.length ∧ v24 = .int .i64 (m : Int) ∧ Below w2.heap.size w2 wr) (fun v24 _ => ms.length - (intOf v24).toNat)
  case atStart => exact ⟨1, by omega, by omega, rfl, hB6⟩
  case round =>
    obtain ⟨m, hm2, hm3, rfl, hBr⟩ := hrel
    by_cases hmlt : m < ms.length
    · have q1 : (m : Int) < (ms.length : Int) := by omega
      have q0 : (0 : Int) ≤ (m : Int) := by omega
      obtain ⟨p, hpm⟩ : ∃ p, p + 1 = m := ⟨m - 1, by omega⟩
      have p1 : (p : Int) < (ms.length : Int) := by omega
      have p0 : (0 : Int) ≤ (p : Int) := by omega
      have wm : IntKind.i64.wrap ((m : Int) - 1) = (p : Int) := by rw [IntWalk.i64_in _ ⟨by omega, by omega⟩]; omega
      have am := HMR.out.am p (by omega)
      rw [hpm] at am
      have t1 := (HMK.out.later hBr).a m hmlt
      have t2 := (HMK.out.later hBr).r m hmlt
      have t3 := (HMK.out.later hBr).a p (by omega)
      have t4 := (HMK.out.later hBr).r p (by omega)
      have d1 : decide (at' ms m < at' ms p) = false := by simp; omega
      have HPM : Hid _ := hpm
      clear hpm am
      go_wp2_with fail
      go_region_held3 (fun w' => w'.cell? ⟨gm, m * 2, none⟩ = some (.int .i64 (at' ms m)) ∧ w'.cell? ⟨gm, m * 2 + 1, none⟩ = some (.int .i64 (fr' ms m)) ∧ w'.cell? ⟨gm, p * 2, none⟩ = some (.int .i64 (at' ms p)) ∧ w'.cell? ⟨gm, p * 2 + 1, none⟩ = some (.int .i64 (fr' ms p))) (refine ⟨?_, ?_, ?_, ?_⟩ <;> (repeat (first | assumption | refine kd ?_ | refine kal ?_))) (first | (go_at_call 18; refine (at_any _ _ _).mono ?_; rintro r w' ⟨rfl, rfl⟩))
      go_wp2_with fail
      go_roundw
      case rel => exact ⟨m + 1, by omega, by omega, by go_num, (bela (bela hBr _) _).drew⟩
      case measure => simp [intOf]; omega
    · obtain ⟨p, hpm⟩ : ∃ p, p + 1 = ms.length := ⟨ms.length - 1, by omega⟩
      have p1 : (p : Int) < (ms.length : Int) := by omega
      have p0 : (0 : Int) ≤ (p : Int) := by omega
      have wm : IntKind.i64.wrap ((ms.length : Int) - 1) = (p : Int) := by rw [IntWalk.i64_in _ ⟨by omega, by omega⟩]; omega
      have t3 := (HMK.out.later hBr).a p (by omega)
      have t4 := (HMK.out.later hBr).r p (by omega)
      have al := HMR.out.al p (by omega)
      have d1 : decide (at' ms p ≤ (want.length : Int)) = true := by simpa using al
      have HPM : Hid _ := hpm
      clear hpm al
      have hBr0 : Below w0.heap.size w0 wr := below_trans HBB.out hBr
      go_wp2_with (go_at_call 18; refine (at_any _ _ _).mono ?_; rintro r w' ⟨rfl, rfl⟩)
      go_ret
      exact ⟨rfl, hBr0.alloc hBr0.size _⟩
end Go.Proofs.Qxb6003380a.Kb
