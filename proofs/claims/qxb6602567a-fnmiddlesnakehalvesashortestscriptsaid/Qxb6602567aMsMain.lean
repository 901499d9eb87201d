/- The middle snake: the whole search. -/
import Derived.Test.Qxb6602567aMsLoF
import Derived.Test.Qxb6602567aMsLoB
import Derived.Test.Qxb6602567aMsFar
namespace Go.Proofs.Qxb6602567a.Ms
open Go Go.RowKit
set_option linter.unusedVariables false

theorem results_tmp4 {fn : Func} {t u v x : Tmp} (h : fn.results = #[.tmp t, .tmp u, .tmp v, .tmp x]) (tmps : Array Value) (P : Program) (w : World) :
    (results fn tmps).run P w = .ok (.tuple #[tmps.getD t undef, tmps.getD u undef, tmps.getD v undef, tmps.getD x undef]) w := by
  simp [results, h]
/-- a step without a meeting: the distance is greater -/
theorem next_bound {e e' : Nat → Nat → Bool} {n m at' d : Nat} {F1 G G1 : List Int} {odd : Bool} (h : Rev e e' n m) (hF : Fw e at' d F1) (hG1 : Fw e' at' d G1) (hG : 1 ≤ d → Fw e' at' (d - 1) G) (hD : 2 * d ≤ Dst e n m + 1) (ho : odd = decide ((n + m) % 2 = 1))
    (n1 : odd = true → NoM n m at' d (d + 1) ((d : Int) - 1) F1 G) (n2 : odd = false → NoM n m at' d (d + 1) d G1 F1) : 2 * (d + 1) ≤ Dst e n m + 1 := by
  have hpar := par_box (e := e) (n := n) (m := m)
  by_cases c : (n + m) % 2 = 1
  · by_cases hd0 : d = 0
    · subst hd0
      omega
    · have e1 : ((d - 1 : Nat) : Int) = (d : Int) - 1 := by omega
      have h1 := n1 (by rw [ho]; simpa using c)
      rw [← e1] at h1
      have hne := NoM.not h hF (hG (by omega)) (by omega) h1
      omega
  · have hne := NoM.not h.symm hG1 hF (by omega) (n2 (by rw [ho]; simpa using c))
    have := rev_eq h
    omega
/-- what the search answers -/
def Ans (w0 : World) (e e' : Nat → Nat → Bool) (n m fl tl : Nat) (r : Ending) (w' : World) : Prop :=
  ∃ x y j : Nat, r = .returned (.tuple #[.int .i64 ((fl : Int) + (x : Int)), .int .i64 ((tl : Int) + (y : Int)), .int .i64 ((fl : Int) + ((x + j : Nat) : Int)), .int .i64 ((tl : Int) + ((y + j : Nat) : Int))]) ∧ Cuts e e' n m x y j ∧ Below w0.heap.size w0 w'
theorem ret_ans {w0 : World} {e e' : Nat → Nat → Bool} {n m fl tl : Nat} (t : Array Value) (wx : World) (x y j : Nat) (h1 : t.getD 10 undef = .int .i64 ((fl : Int) + (x : Int))) (h2 : t.getD 11 undef = .int .i64 ((tl : Int) + (y : Int))) (h3 : t.getD 12 undef = .int .i64 ((fl : Int) + ((x + j : Nat) : Int))) (h4 : t.getD 13 undef = .int .i64 ((tl : Int) + ((y + j : Nat) : Int)))
    (h5 : Cuts e e' n m x y j) (h6 : Below w0.heap.size w0 wx) : bodyPost Try.prog Try.f15 (fun r w' => Ans w0 e e' n m fl tl r w') .ret ⟨t, []⟩ wx := by
  refine bodyPost_ret (results_tmp4 rfl _ _ _) rfl ?_
  rw [h1, h2, h3, h4]
  exact ⟨x, y, j, rfl, h5, h6⟩

set_option maxHeartbeats 8000000 in
set_option maxRecDepth 100000 in
theorem middle_any (w0 w : World) (B gA gT gf gb cA cT R cf cb fl fh tl th n m : Nat) (A T : List ByteArray) (F0 G0 : List Int)
    (hM : Mem w0 w B gA gT gf gb cA cT R cf cb A T F0 G0) (hfh : fh = fl + n) (hth : th = tl + m) (hA : fh ≤ A.length) (hT : th ≤ T.length) (hAL : A.length ≤ 65536) (hTL : T.length ≤ 65536) (hR : R = n + m + 4) :
    Calls Try.prog 15 #[.pointer (some ⟨B, 0, none⟩), .int .i64 (fl : Int), .int .i64 (fh : Int), .int .i64 (tl : Int), .int .i64 (th : Int)] w fun r w' => Ans w0 (eqA A T fl tl n m) (eqB A T fh th n m) n m fl tl r w' := by
  obtain ⟨mo, hmo⟩ : ∃ mo : Nat, mo = (n + m + 1) / 2 := ⟨_, rfl⟩
  obtain ⟨at0, hat0⟩ : ∃ at0 : Nat, at0 = mo + 1 := ⟨_, rfl⟩
  obtain ⟨odd, hodd⟩ : ∃ odd : Bool, odd = decide ((n + m) % 2 = 1) := ⟨_, rfl⟩
  obtain ⟨p, hp⟩ : ∃ p : Nat, p = at0 + 1 := ⟨_, rfl⟩
  have hn : n ≤ 65536 := by omega
  have hm : m ≤ 65536 := by omega
  have hfl : fl ≤ 65536 := by omega
  have htl : tl ≤ 65536 := by omega
  have hfhb : fh ≤ 65536 := by omega
  have hthb : th ≤ 65536 := by omega
  have hmob : mo ≤ 65536 := by omega
  have hatb : at0 ≤ 65538 := by omega
  have hRm : R ≤ 131076 := by omega
  have hR2 : at0 + at0 < R := by omega
  have wN : IntKind.i64.wrap ((fh : Int) - (fl : Int)) = (n : Int) := by rw [IntWalk.i64_in _ ⟨by omega, by omega⟩]; omega
  have wM : IntKind.i64.wrap ((th : Int) - (tl : Int)) = (m : Int) := by rw [IntWalk.i64_in _ ⟨by omega, by omega⟩]; omega
  have wAt : IntKind.i64.wrap ((mo : Int) + 1) = (at0 : Int) := by rw [IntWalk.i64_in _ ⟨by omega, by omega⟩]; omega
  have wAp : IntKind.i64.wrap ((at0 : Int) + 1) = (p : Int) := by rw [IntWalk.i64_in _ ⟨by omega, by omega⟩]; omega
  have hpR : (p : Int) < (R : Int) := by omega
  have hp0 : (0 : Int) ≤ (p : Int) := by omega
  have hmo2 : (((n : Int) + (m : Int) + 1).tdiv 2) = (mo : Int) := by rw [Int.tdiv_eq_ediv_of_nonneg (by omega)]; omega
  have hO : ((((n : Int) - (m : Int)).tmod 2) != 0) = odd := by
    rw [hodd]
    by_cases c : (n + m) % 2 = 1
    · have h1 : ¬ (((n : Int) - (m : Int)).tmod 2 = 0) := fun h => by
        have := Int.dvd_of_tmod_eq_zero h
        omega
      simp [c, h1]
    · have h1 : ((n : Int) - (m : Int)).tmod 2 = 0 := Int.tmod_eq_zero_of_dvd (by omega)
      simp [c, h1]
  have s3 := hM.s3
  have s4 := hM.s4
  have HM : Hid (Mem w0 w B gA gT gf gb cA cT R cf cb A T F0 G0) := hM
  have HF : Hid (fh = fl + n ∧ th = tl + m) := ⟨hfh, hth⟩
  have HMO : Hid (mo = (n + m + 1) / 2 ∧ at0 = mo + 1 ∧ p = at0 + 1) := ⟨hmo, hat0, hp⟩
  have HODD : Hid (odd = decide ((n + m) % 2 = 1)) := hodd
  clear hM hfh hth hmo hat0 hodd hp hR
  go_enter Try.func15, Try.ntmps15
  go_wp2_with fail
  refine wp_region_quiet_lit (by kernel_rfl) (by kernel_rfl) ?_
  repeat (with_reducible refine wpQuiet_step (fun K hK => ?_); go_simp; with_reducible refine hK _ ?_; clear hK K)
  with_reducible refine wpQuiet_nil ?_
  intro _ hw1
  obtain ⟨nq, hw2⟩ := hw1
  subst hw2
  have f1 := (HM.out.drewN nq).frF p
  have f2 := (HM.out.drewN nq).cellF (i := p) (by omega)
  have f3 := ((HM.out.drewN nq).setF p 0).frG p
  have f4 := ((HM.out.drewN nq).setF p 0).cellG (i := p) (by omega)
  have HM2 : Hid (Mem w0 (((w.drewN nq).setCell ⟨gf, p, none⟩ (.int .i64 0)).setCell ⟨gb, p, none⟩ (.int .i64 0)) B gA gT gf gb cA cT R cf cb A T (F0.set p 0) (G0.set p 0)) := ((HM.out.drewN nq).setF p 0).setG p 0
  have HP0 : Hid (ig (F0.set p 0) p = 0 ∧ ig (G0.set p 0) p = 0) := ⟨ig_set_same (by have := HM.out.lenF; omega) 0, ig_set_same (by have := HM.out.lenG; omega) 0⟩
  go_wp2_with fail
  clear f1 f2 f3 f4 s3 s4 wN wM wAt wAp hO hmo2
  go_loopw [22] (fun v22 wr => ∃ (d : Nat) (F G : List Int), d ≤ mo + 1 ∧ v22 = .int .i64 (d : Int) ∧ Hid (Pre (eqA A T fl tl n m) at0 d F ∧ Pre (eqB A T fh th n m) at0 d G ∧ 2 * d ≤ Dst (eqA A T fl tl n m) n m + 1) ∧ Hid (Mem w0 wr B gA gT gf gb cA cT R cf cb A T F G)) (fun v22 _ => mo + 1 - (intOf v22).toNat)
  case atStart =>
    refine ⟨0, F0.set p 0, G0.set p 0, by omega, rfl, ⟨⟨fun _ => ?_, fun h => absurd h (by omega)⟩, ⟨fun _ => ?_, fun h => absurd h (by omega)⟩, by omega⟩, HM2⟩
    · have := HMO.out.2.2; rw [← this]; exact HP0.out.1
    · have := HMO.out.2.2; rw [← this]; exact HP0.out.2
  case round =>
    clear HM2 HP0
    obtain ⟨d, F, G, hd, rfl, HPRE, HMM⟩ := hrel
    by_cases hdm : d ≤ mo
    · go_wp2_with fail
      refine loopF w0 wr B gA gT gf gb cA cT R cf cb fl fh tl th n m at0 d odd A T F G _ _ _ _ _ _ _ _ _ _ _ _ _ _ _ _ _ _ _ _ _ _ _ _ _ _ _ _ _ _ _ _ _ _ _ _ _ _ _ _ _ _ _ _ _ _ _ _ _ _ _ _ _ _ _ _ _ _ _ _ _ _ _ _ _ _ _ _ _ _ _ _ _ _ _ _ _ _ _ _ _ _ _ _ _ _ _ _ _ _ _ _ _ _ _ _ _ _ _ _ _ _ _ _ _ _ _ _ _ _ _ _ _ _ _ _ _ _ _ _ _ _ _ _ _ _ _ _ _ _ _ _ _ _ _ _ _ _ _ _ _ _ _ _ _ _ _ _ _ _ _ _ _ _ _ _ _ _ _ _ _ _ _ _ _ _ _ _ _ _ _ _ _ _ _ _ _ _ _ _ _ _ _ _ _ _ _ _ _ _ _ _ _ _ _ _ _ _ _ _ _ _ _ _ _ _ _ _ _ _ _ _ _ _ _ _ _ _ _ _ _ _ _ _ _ _ _ _ _ _ _ _ _ _ _ _ _ _ _ _ _ _ _ _ _ _ _ _ _ _ _ _ _ _ _ _ _ _ _ _ _ _ _ _ _ _ _ _ _ _ _ _ _ _ _ _ _ _ _ _ _ _ _ _ _ _ _ _ _ _ _ _ _ _ _ _ _ _ _ _ _ _ _ _ _ _ _ _ _ _ _ _ _ _ _ _ _ _ _ _ _ _ _ _ _ _ _ _ _ _ _ _ _ _ _ _ _ _ _ _ _ _ _ _ _ _ _ _ _ _ _ _ _ _ HMM.out HODD.out HF.out.1 HF.out.2 hA hT hAL hTL (by have := HMO.out.2.1; omega) hatb hR2 hRm HPRE.out.1 HPRE.out.2.1.2 HPRE.out.2.2 _ ?_ ?_
      · intro t wx x y j g1 g2 g3 g4 g5 g6
        exact ret_ans t wx x y j g1 g2 g3 g4 g5 g6
      intro v10 v11 v12 v13 v23 v24 v25 v26 v27 v28 v79 v80 v81 v82 v83 v84 v85 v86 v87 v88 v89 v90 v91 v92 v93 v94 v95 v96 v97 v98 v99 v100 v101 v102 v103 v104 v105 v106 v107 v108 v109 v110 v111 v112 v113 v114 v115 v116 v117 v118 v119 v120 v121 v122 v123 v124 v125 v126 v127 v128 v129 v130 v131 v132 v133 v134 v135 v136 v137 v138 v139 v140 v141 v142 v143 v144 v145 v146 v147 v148 v149 v150 v151 v152 v153 v154 v155 v156 v157 v158 v159 v160 v161 v162 v163 v164 v165 v166 v167 v168 v169 v170 v171 v172 v173 v174 v175 v176 v177 v178 v179 v180 v181 v182 v183 v184 v185 v186 v187 v188 v189 v190 v191 v192 v193 v194 v195 v196 v197 v198 v199 v200 v201 v202 v203 v204 v205 v206 v207 v208 v209 wx F1 hm1 hf1 hn1
      have HM1 : Hid (Mem w0 wx B gA gT gf gb cA cT R cf cb A T F1 G) := hm1
      have HF1 : Hid (Fw (eqA A T fl tl n m) at0 d F1) := hf1
      have HN1 : Hid (odd = true → NoM n m at0 d (d + 1) ((d : Int) - 1) F1 G) := hn1
      clear hm1 hf1 hn1
      go_wp2_with fail
      refine loopB w0 wx B gA gT gf gb cA cT R cf cb fl fh tl th n m at0 d odd A T F1 G _ _ _ _ _ _ _ _ _ _ _ _ _ _ _ _ _ _ _ _ _ _ _ _ _ _ _ _ _ _ _ _ _ _ _ _ _ _ _ _ _ _ _ _ _ _ _ _ _ _ _ _ _ _ _ _ _ _ _ _ _ _ _ _ _ _ _ _ _ _ _ _ _ _ _ _ _ _ _ _ _ _ _ _ _ _ _ _ _ _ _ _ _ _ _ _ _ _ _ _ _ _ _ _ _ _ _ _ _ _ _ _ _ _ _ _ _ _ _ _ _ _ _ _ _ _ _ _ _ _ _ _ _ _ _ _ _ _ _ _ _ _ _ _ _ _ _ _ _ _ _ _ _ _ _ _ _ _ _ _ _ _ _ _ _ _ _ _ _ _ _ _ _ _ _ _ _ _ _ _ _ _ _ _ _ _ _ _ _ _ _ _ _ _ _ _ _ _ _ _ _ _ _ _ _ _ _ _ _ _ _ _ _ _ _ _ _ _ _ _ _ _ _ _ _ _ _ _ _ _ _ _ _ _ _ _ _ _ _ _ _ _ _ _ _ _ _ _ _ _ _ _ _ _ _ _ _ _ _ _ _ _ _ _ _ _ _ _ _ _ _ _ _ _ _ _ _ _ _ _ _ _ _ _ _ _ _ _ _ _ _ _ _ _ _ _ _ _ _ _ _ _ _ _ _ _ _ _ _ _ _ _ _ _ _ _ _ _ _ _ _ _ _ _ _ _ _ _ _ _ _ _ _ _ _ _ _ _ _ _ _ _ _ _ _ _ _ _ _ _ _ _ _ _ HM1.out HODD.out HF.out.1 HF.out.2 hA hT hAL hTL (by have := HMO.out.2.1; omega) hatb hR2 hRm HPRE.out.2.1 HF1.out HPRE.out.2.2 _ ?_ ?_
      · intro t wx x y j g1 g2 g3 g4 g5 g6
        exact ret_ans t wx x y j g1 g2 g3 g4 g5 g6
      intro x10 x11 x12 x13 x29 x30 x31 x32 x33 x34 x212 x213 x214 x215 x216 x217 x218 x219 x220 x221 x222 x223 x224 x225 x226 x227 x228 x229 x230 x231 x232 x233 x234 x235 x236 x237 x238 x239 x240 x241 x242 x243 x244 x245 x246 x247 x248 x249 x250 x251 x252 x253 x254 x255 x256 x257 x258 x259 x260 x261 x262 x263 x264 x265 x266 x267 x268 x269 x270 x271 x272 x273 x274 x275 x276 x277 x278 x279 x280 x281 x282 x283 x284 x285 x286 x287 x288 x289 x290 x291 x292 x293 x294 x295 x296 x297 x298 x299 x300 x301 x302 x303 x304 x305 x306 x307 x308 x309 x310 x311 x312 x313 x314 x315 x316 x317 x318 x319 x320 x321 x322 x323 x324 x325 x326 x327 x328 x329 x330 x331 x332 x333 x334 x335 x336 x337 x338 x339 x340 x341 x342 x343 wy G1 hm2 hg2 hn2
      have HM3 : Hid (Mem w0 wy B gA gT gf gb cA cT R cf cb A T F1 G1) := hm2
      have HNEXT : Hid (Pre (eqA A T fl tl n m) at0 (d + 1) F1 ∧ Pre (eqB A T fh th n m) at0 (d + 1) G1 ∧ 2 * (d + 1) ≤ Dst (eqA A T fl tl n m) n m + 1) := by
        refine ⟨⟨fun h => absurd h (by omega), fun _ => HF1.out⟩, ⟨fun h => absurd h (by omega), fun _ => hg2⟩, ?_⟩
        have hrev := eq_rev A T fl tl n m
        rw [← HF.out.1, ← HF.out.2] at hrev
        exact next_bound hrev HF1.out hg2 HPRE.out.2.1.2 HPRE.out.2.2 HODD.out HN1.out hn2
      clear hm2 hn2 hg2 HN1 HM1
      by_cases h1024 : d = 1024
      · subst h1024
        have hfar := far_any w0 wy B gA gT gf gb cA cT R cf cb n m at0 1024 A T F1 G1 (eqA A T fl tl n m) (eqA_box A T fl tl n m) HM3.out HF1.out (by have := HMO.out.2.1; omega) hatb hR2 hRm hn hm
        have HFAR : Hid _ := hfar
        clear hfar
        go_wp2_with fail
        refine Calls.mono HFAR.out ?_
        rintro r w5 ⟨⟨x, y, rfl, hfar, hmost⟩, rfl⟩
        have hbx := hfar.bx
        have hcy := hfar.cy
        have HC : Hid (Cuts (eqA A T fl tl n m) (eqB A T fh th n m) n m x y 0) := cuts_far (eqA_box A T fl tl n m) HF1.out (by omega) (by have := HNEXT.out.2.2; omega) (by have := HNEXT.out.2.2; omega) hfar (fun k h1 h2 h3 h4 h5 => hmost.all k h1 h2 h3 h4 h5)
        clear hfar hmost HFAR
        go_wp2_with fail
        exact ret_ans _ _ x y 0 rfl rfl rfl rfl HC.out HM3.out.bel
      · have b1 : ((d : Int) == 1024) = false := by rw [beq_eq_false_iff_ne]; omega
        go_wp2_with fail
        go_roundw
        case rel => first | exact ⟨d + 1, F1, G1, by omega, by go_num, HNEXT, HM3⟩ | ((repeat apply Exists.intro); exact ⟨⟨d + 1, F1, G1, by omega, by go_num, HNEXT, HM3⟩, rfl⟩)
        case measure => simp [intOf]; omega
    · exfalso
      have h1 := HPRE.out.2.2
      have h2 := le_all (e := eqA A T fl tl n m) n m
      have h3 := HMO.out.1
      omega
end Go.Proofs.Qxb6602567a.Ms
