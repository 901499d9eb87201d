/- The walk of the law on the two halves. -/
import Derived.Test.Qxb6602567aMsSplit
import Derived.Test.Qxb6602567aMsLcs
namespace Go.Proofs.Qxb6602567a.Ms
open Go Go.RowKit
set_option linter.unusedVariables false

/-- a part of a slice -/
def part (l : List ByteArray) (lo n : Nat) : List ByteArray := (l.drop lo).take n
theorem part_len {l : List ByteArray} {lo n : Nat} (h : lo + n ≤ l.length) : (part l lo n).length = n := by simp [part]; omega
theorem part_at {l : List ByteArray} {lo n j : Nat} (h : lo + n ≤ l.length) (hj : j < n) : lineAt (part l lo n) j = lineAt l (lo + j) := by
  simp [part, lineAt, List.getD_eq_getElem?_getD, hj]
theorem StrsIn.cutOf {w : World} {b off : Nat} {l : List ByteArray} {lo n : Nat} (h : StrsIn w (some ⟨b, off, none⟩) l) (hl : lo + n ≤ l.length) : StrsIn w (some ⟨b, off + lo, none⟩) (part l lo n) := fun j hj => by
  rw [part_len hl] at hj
  obtain ⟨b', off', e, hc⟩ := h (lo + j) (by omega)
  simp at e
  obtain ⟨rfl, rfl⟩ := e
  refine ⟨b, off + lo, rfl, ?_⟩
  rw [part_at hl hj, Nat.add_assoc]
  exact hc
theorem StrsIn.sub {w : World} {b off : Nat} {l : List ByteArray} {lo n : Nat} {aA : Option Addr} (h : StrsIn w (some ⟨b, off, none⟩) l) (hl : lo + n ≤ l.length) (ha : n = 0 ∨ aA = some ⟨b, off + lo, none⟩) : StrsIn w aA (part l lo n) := by
  rcases ha with h0 | rfl
  · intro j hj
    rw [part_len hl] at hj
    omega
  · exact h.cutOf hl
theorem dist_win (aA aT : Option Addr) (b1 o1 b2 o2 lo1 n lo2 m c c2 : Nat) (A T : List ByteArray) (w : World) (hA : StrsIn w (some ⟨b1, o1, none⟩) A) (hT : StrsIn w (some ⟨b2, o2, none⟩) T) (h1 : lo1 + n ≤ A.length) (h2 : lo2 + m ≤ T.length) (hAL : A.length ≤ 65536) (hTL : T.length ≤ 65536) (ha : n = 0 ∨ aA = some ⟨b1, o1 + lo1, none⟩) (ht : m = 0 ∨ aT = some ⟨b2, o2 + lo2, none⟩) :
    Calls Try.prog 8 #[.slice aA n c, .slice aT m c2] w fun r w' => r = .returned (.int .i64 ((Dst (eqA A T lo1 lo2 n m) n m : Nat) : Int)) ∧ Below w.heap.size w w' := by
  have h := dist_any aA aT (part A lo1 n) (part T lo2 m) c c2 w (hA.sub h1 ha) (hT.sub h2 ht) (by rw [part_len h1]; omega) (by rw [part_len h2]; omega)
  rw [part_len h1, part_len h2] at h
  have e : Dst (eqL (part A lo1 n) (part T lo2 m)) n m = Dst (eqA A T lo1 lo2 n m) n m := dst_congr _ n m (Nat.le_refl _) fun p q hp hq => by
    simp [eqL, eqA, hp, hq, part_at h1 hp, part_at h2 hq]
  rw [e] at h
  exact h
theorem row_cap {w : World} {g c : Nat} {l : List ByteArray} (h : w.ownsRow 0 9 1 (.slice (some ⟨g, 0, none⟩) l.length c) l.length (scells l)) : l.length ≤ c ∧ c ≤ maxLen := by
  rcases h.2 with ⟨h1, -⟩ | ⟨g', c', cur, he, -, -, h1, h2, -⟩
  · simp at h1
  · simp at he
    obtain ⟨rfl, rfl⟩ := he
    exact ⟨h1, h2⟩
/-- the first half -/
theorem dst_first {A T : List ByteArray} {fl tl n m x y : Nat} (hx : x ≤ n) (hy : y ≤ m) : Dst (eqA A T fl tl x y) x y = Dst (eqA A T fl tl n m) x y := dst_congr _ x y (Nat.le_refl _) fun p q hp hq => by
  have h1 : p < n := by omega
  have h2 : q < m := by omega
  simp [eqA, hp, hq, h1, h2]
/-- the second half -/
theorem dst_second {A T : List ByteArray} {u v fh th n m n' m' : Nat} (hn : n' ≤ n) (hm : m' ≤ m) (hu : u + n' = fh) (hv : v + m' = th) : Dst (eqA A T u v n' m') n' m' = Dst (eqB A T fh th n m) n' m' := by
  have h := rev_eq (eq_rev A T u v n' m')
  rw [hu, hv] at h
  rw [← h]
  exact dst_congr _ n' m' (Nat.le_refl _) fun p q hp hq => by
    have h1 : p < n := by omega
    have h2 : q < m := by omega
    simp [eqB, hp, hq, h1, h2]

set_option maxHeartbeats 4000000 in
set_option maxRecDepth 100000 in
theorem halfT (a a2 : Option Addr) (A T : List ByteArray) (c c2 : Nat) (i1 i2 i3 i4 : Int) (w : World) (hA0 : a = none → A.length = 0) (hT0 : a2 = none → T.length = 0) (hA : StrsIn w a A) (hT : StrsIn w a2 T) (hn : A.length ≤ maxLen) (hn2 : T.length ≤ maxLen) (hz : Sized A) (hz2 : Sized T) (hcA : A.length ≤ c) (hcT : T.length ≤ c2) (hcm : c ≤ maxLen) (hcm2 : c2 ≤ maxLen) :
    Calls Try.prog 3 #[.slice a A.length c, .slice a2 T.length c2, .int .i64 i1, .int .i64 i2, .int .i64 i3, .int .i64 i4] w fun e w' => e = .returned (.bool true) ∧ Below w.heap.size w w' := by
  have HZZ : Hid (Calls Try.prog 5 #[.slice a A.length c, .slice a2 T.length c2, .int .i64 i1, .int .i64 i2, .int .i64 i3, .int .i64 i4] w fun r w' => AnyB r ∧ w' = w) := zz5_any a a2 A T c c2 i1 i2 i3 i4 w hA hT hn hn2 hz hz2
  have HA0 : Hid (a = none → A.length = 0) := hA0
  have HT0 : Hid (a2 = none → T.length = 0) := hT0
  have HA : Hid (StrsIn w a A) := hA
  have HT : Hid (StrsIn w a2 T) := hT
  have HZ : Hid (Sized A ∧ Sized T) := ⟨hz, hz2⟩
  unfold maxLen at hn hn2 hcm hcm2
  clear hA0 hT0 hA hT hz hz2
  go_enter Try.func3, Try.ntmps3
  go_wp2_with fail
  refine Calls.mono HZZ.out ?_
  rintro r w' ⟨⟨b, rfl⟩, hw⟩
  subst hw
  clear HZZ
  cases b with
  | false =>
    go_wp2
    go_ret
    exact ⟨rfl, Below.refl _ _⟩
  | true =>
  by_cases t1 : (65536 : Int) < (A.length : Int)
  · have b1 : decide ((65536 : Int) < (A.length : Int)) = true := by simpa using t1
    go_wp2
    go_ret
    exact ⟨rfl, Below.refl _ _⟩
  have b1 : decide ((65536 : Int) < (A.length : Int)) = false := by simpa using t1
  by_cases t2 : (65536 : Int) < (T.length : Int)
  · have b2 : decide ((65536 : Int) < (T.length : Int)) = true := by simpa using t2
    go_wp2
    go_ret
    exact ⟨rfl, Below.refl _ _⟩
  have b2 : decide ((65536 : Int) < (T.length : Int)) = false := by simpa using t2
  have hAL : A.length ≤ 65536 := by omega
  have hTL : T.length ≤ 65536 := by omega
  go_wp2_with fail
  refine Calls.mono (text_any a A c w' HA.out hAL HZ.out.1) ?_
  rintro r w1 ⟨⟨s1, rfl, hs10, hs11⟩, hw⟩
  subst hw
  go_wp2_with fail
  refine Calls.mono (text_any a2 T c2 w1 HT.out hTL HZ.out.2) ?_
  rintro r w2 ⟨⟨s2, rfl, hs20, hs21⟩, hw⟩
  subst hw
  by_cases t3 : (1048576 : Int) < s1 + s2
  · go_wp2
    go_ret
    exact ⟨rfl, Below.refl _ _⟩
  clear b1 b2
  go_wp2_with fail
  refine Calls.mono (window_any a a2 A T c c2 i1 i2 i3 i4 w2 HA.out HT.out hAL hTL) ?_
  rintro r w3 ⟨⟨b, rfl, hwin⟩, k1, hw⟩
  subst hw
  cases b with
  | false =>
    clear hwin
    go_wp2
    go_ret
    exact ⟨rfl, belN _⟩
  | true =>
  have hwin := hwin rfl
  obtain ⟨fl, hfl⟩ := Int.eq_ofNat_of_zero_le hwin.a0
  obtain ⟨fh, hfh⟩ := Int.eq_ofNat_of_zero_le (show 0 ≤ i2 by have := hwin.a0; have := hwin.a1; omega)
  obtain ⟨tl, htl⟩ := Int.eq_ofNat_of_zero_le hwin.b0
  obtain ⟨th, hth⟩ := Int.eq_ofNat_of_zero_le (show 0 ≤ i4 by have := hwin.b0; have := hwin.b1; omega)
  subst hfl hfh htl hth
  obtain ⟨n, hn'⟩ : ∃ n, fh = fl + n := ⟨fh - fl, by have := hwin.a1; omega⟩
  obtain ⟨m, hm'⟩ : ∃ m, th = tl + m := ⟨th - tl, by have := hwin.b1; omega⟩
  have hA2 : fh ≤ A.length := by have := hwin.a2; omega
  have hT2 : th ≤ T.length := by have := hwin.b2; omega
  have htwo := win_two hwin hn' hm'
  have HNM : Hid (fh = fl + n ∧ th = tl + m) := ⟨hn', hm'⟩
  have hAp : 0 < A.length := by omega
  have hTp : 0 < T.length := by omega
  have wN : IntKind.i64.wrap ((fh : Int) - (fl : Int)) = (n : Int) := by rw [IntWalk.i64_in _ ⟨by omega, by omega⟩]; omega
  have wM : IntKind.i64.wrap ((th : Int) - (tl : Int)) = (m : Int) := by rw [IntWalk.i64_in _ ⟨by omega, by omega⟩]; omega
  have hA3 : fl + n ≤ A.length := by omega
  have hT3 : tl + m ≤ T.length := by omega
  have r1' : fl < fh := by have := hwin.a1; omega
  have r2' : tl < th := by have := hwin.b1; omega
  have r1 : fl ≤ fh := by omega
  have r2 : tl ≤ th := by omega
  have r3 : fh ≤ c := by omega
  have r4 : th ≤ c2 := by omega
  have nc1 : ¬ c = fl := by have := hwin.a1; omega
  have nc2 : ¬ c2 = tl := by have := hwin.b1; omega
  have r5 : fh - fl = n := by omega
  have r6 : th - tl = m := by omega
  clear hwin hn' hm' htwo
  by_cases u1 : (4096 : Int) < (n : Int)
  · have b1 : decide ((4096 : Int) < (n : Int)) = true := by simpa using u1
    go_wp2
    go_ret
    exact ⟨rfl, belN _⟩
  have b1 : decide ((4096 : Int) < (n : Int)) = false := by simpa using u1
  by_cases u2 : (4096 : Int) < (m : Int)
  · have b2 : decide ((4096 : Int) < (m : Int)) = true := by simpa using u2
    go_wp2
    go_ret
    exact ⟨rfl, belN _⟩
  have b2 : decide ((4096 : Int) < (m : Int)) = false := by simpa using u2
  go_wp2_with fail
  obtain ⟨bA, oA, eA, -⟩ := HA.out 0 hAp
  obtain ⟨bT, oT, eT, -⟩ := HT.out 0 hTp
  subst eA eT
  go_region_held3 (fun w' => Below w2.heap.size w2 w') (first | assumption | (refine below_trans ?_ (by assumption); assumption) | (refine Below.drew ?_; assumption) | exact belN _ | exact (belN _).drew) (first | (go_at_call 8; refine Calls.mono (dist_win _ _ bA oA bT oT fl n tl m _ _ A T _ (HA.out.later (by first | exact belN _ | assumption)) (HT.out.later (by first | exact belN _ | assumption)) hA3 hT3 hAL hTL (.inr rfl) (.inr rfl)) ?_; rintro r w' ⟨rfl, hb⟩))
  rename_i hHeld
  have HB0 : Hid (Below w2.heap.size w2 w') := hHeld
  clear hb hHeld
  have hDle := le_all (e := eqA A T fl tl n m) n m
  obtain ⟨D, hD⟩ : ∃ D, D = Dst (eqA A T fl tl n m) n m := ⟨_, rfl⟩
  rw [← hD] at hDle ⊢
  have HD : Hid (D = Dst (eqA A T fl tl n m) n m) := hD
  clear hD b1 b2
  by_cases u3 : (2048 : Int) < (D : Int)
  · go_wp2
    go_ret
    exact ⟨rfl, HB0.out⟩
  go_wp2_with fail
  refine Calls.mono (clone_any w' (some ⟨bA, oA, none⟩) A.length c A rfl (fun h => absurd h (by simp)) (by omega) (HA.out.later HB0.out)) ?_
  rintro r w4 ⟨⟨v1, rfl, ho1, hf1⟩, hb1⟩
  obtain ⟨gA, cA, rfl, lA, cellA⟩ := row_form ho1 hAp
  have hcAA := row_cap ho1
  have HCA : Hid (∀ i, i < A.length → w4.cell? ⟨gA, i, none⟩ = some (.string (lineAt A i))) := cellA
  have HB1 : Hid (Below w2.heap.size w2 w4) := below_trans HB0.out hb1
  clear ho1 hf1 hb1 cellA
  go_wp2_with fail
  refine Calls.mono (clone_any w4 (some ⟨bT, oT, none⟩) T.length c2 T rfl (fun h => absurd h (by simp)) (by omega) (HT.out.later HB1.out)) ?_
  rintro r w5 ⟨⟨v2, rfl, ho2, hf2⟩, hb2⟩
  obtain ⟨gT, cT, rfl, lT, cellT⟩ := row_form ho2 hTp
  have hcTT := row_cap ho2
  have HCT : Hid (∀ i, i < T.length → w5.cell? ⟨gT, i, none⟩ = some (.string (lineAt T i))) := cellT
  have HCA2 : Hid (∀ i, i < A.length → w5.cell? ⟨gA, i, none⟩ = some (.string (lineAt A i))) := fun i hi => (hb2.cell (p := ⟨gA, i, none⟩) lA).trans (HCA.out i hi)
  have HB2 : Hid (Below w2.heap.size w2 w5) := below_trans HB1.out hb2
  have lA2 : gA < w5.heap.size := Nat.lt_of_lt_of_le lA hb2.size
  clear ho2 hf2 hb2 cellT HCA HB1 lA
  go_wp2_with fail
  refine Calls.mono (tdmid_any w5 w5 gA gT cA cT fl fh tl th n m A T HCA2.out HCT.out lA2 lT (Below.refl _ _) HNM.out.1 HNM.out.2 hA2 hT2 hAL hTL) ?_
  rintro r w6 ⟨x, y, j, hr, hcut, hb6⟩
  obtain ⟨X, hX⟩ : ∃ X, X = fl + x := ⟨_, rfl⟩
  obtain ⟨Y, hY⟩ : ∃ Y, Y = tl + y := ⟨_, rfl⟩
  obtain ⟨U, hU⟩ : ∃ U, U = X + j := ⟨_, rfl⟩
  obtain ⟨V, hV⟩ : ∃ V, V = Y + j := ⟨_, rfl⟩
  have e1 : (fl : Int) + (x : Int) = (X : Int) := by omega
  have e2 : (tl : Int) + (y : Int) = (Y : Int) := by omega
  have e3 : (fl : Int) + ((x + j : Nat) : Int) = (U : Int) := by omega
  have e4 : (tl : Int) + ((y + j : Nat) : Int) = (V : Int) := by omega
  rw [e1, e2, e3, e4] at hr
  subst hr
  have hbx := hcut.bx
  have hcy := hcut.cy
  have hfhn := HNM.out.1
  have hthm := HNM.out.2
  have HIN : Hid (Calls Try.prog 11 #[.slice (some ⟨gA, 0, none⟩) A.length cA, .slice (some ⟨gT, 0, none⟩) T.length cT, .int .i64 (fl : Int), .int .i64 (fh : Int), .int .i64 (tl : Int), .int .i64 (th : Int), .int .i64 (X : Int), .int .i64 (Y : Int), .int .i64 (U : Int), .int .i64 (V : Int)] w6 fun r w' => r = .returned (.bool true) ∧ ∃ n, w' = w6.drewN n) :=
    within_any _ _ A T cA cT fl fh tl th X Y U V j w6 (fun i hi => ⟨gA, 0, rfl, by rw [Nat.zero_add]; exact (hb6.cell (p := ⟨gA, i, none⟩) lA2).trans (HCA2.out i hi)⟩) (fun i hi => ⟨gT, 0, rfl, by rw [Nat.zero_add]; exact (hb6.cell (p := ⟨gT, i, none⟩) lT).trans (HCT.out i hi)⟩) hAL hTL (by omega) (by omega) hU hV (by omega) (by omega) hA2 hT2 (fun i hi => by rw [hX, hY]; exact run_lines hcut.run i hi)
  obtain ⟨h1, hh1⟩ : ∃ h1, h1 = (D + 1) / 2 := ⟨_, rfl⟩
  obtain ⟨h2, hh2⟩ : ∃ h2, h2 = D / 2 := ⟨_, rfl⟩
  obtain ⟨D1, hD1⟩ : ∃ D1, D1 = D + 1 := ⟨_, rfl⟩
  obtain ⟨n2, hn2'⟩ : ∃ n2, n2 = n - (x + j) := ⟨_, rfl⟩
  obtain ⟨m2, hm2'⟩ : ∃ m2, m2 = m - (y + j) := ⟨_, rfl⟩
  have hhalf : Dst (eqA A T fl tl n m) x y = h1 ∧ Dst (eqB A T fh th n m) n2 m2 = h2 := by
    have hDD := HD.out
    rcases hcut.half with ⟨g1, g2⟩ | ⟨g1, -⟩
    · rw [← hDD] at g1 g2
      rw [hn2', hm2']
      exact ⟨by omega, by omega⟩
    · omega
  have k1' : Dst (eqA A T fl tl x y) x y = h1 := by rw [dst_first (x := x) (y := y) (n := n) (m := m) (by omega) (by omega)]; exact hhalf.1
  have k2' : Dst (eqA A T U V n2 m2) n2 m2 = h2 := by rw [dst_second (u := U) (v := V) (n' := n2) (m' := m2) (n := n) (m := m) (fh := fh) (th := th) (by omega) (by omega) (by omega) (by omega)]; exact hhalf.2
  have HSA : Hid (StrsIn w6 (some ⟨gA, 0, none⟩) A) := fun i hi => ⟨gA, 0, rfl, by rw [Nat.zero_add]; exact (hb6.cell (p := ⟨gA, i, none⟩) lA2).trans (HCA2.out i hi)⟩
  have HST : Hid (StrsIn w6 (some ⟨gT, 0, none⟩) T) := fun i hi => ⟨gT, 0, rfl, by rw [Nat.zero_add]; exact (hb6.cell (p := ⟨gT, i, none⟩) lT).trans (HCT.out i hi)⟩
  have HC1 : Hid (∀ wx (aA aT : Option Addr) (d1 d2 : Nat), Below w6.heap.size w6 wx → aA = some ⟨gA, fl, none⟩ → aT = some ⟨gT, tl, none⟩ → Calls Try.prog 8 #[.slice aA x d1, .slice aT y d2] wx fun r w' => r = .returned (.int .i64 (h1 : Int)) ∧ Below wx.heap.size wx w') := fun wx aA aT d1 d2 hb ha ht => by
    have := dist_win aA aT gA 0 gT 0 fl x tl y d1 d2 A T wx (HSA.out.later hb) (HST.out.later hb) (by omega) (by omega) hAL hTL (.inr (by rw [Nat.zero_add]; exact ha)) (.inr (by rw [Nat.zero_add]; exact ht))
    rw [k1'] at this
    exact this
  obtain ⟨aA2, haA2⟩ : ∃ aA2 : Option Addr, (if cA = U then some (⟨gA, 0, none⟩ : Addr) else some ⟨gA, U, none⟩) = aA2 := ⟨_, rfl⟩
  obtain ⟨aT2, haT2⟩ : ∃ aT2 : Option Addr, (if cT = V then some (⟨gT, 0, none⟩ : Addr) else some ⟨gT, V, none⟩) = aT2 := ⟨_, rfl⟩
  have HC2 : Hid (∀ wx (d1 d2 : Nat), Below w6.heap.size w6 wx → Calls Try.prog 8 #[.slice aA2 n2 d1, .slice aT2 m2 d2] wx fun r w' => r = .returned (.int .i64 (h2 : Int)) ∧ Below wx.heap.size wx w') := fun wx d1 d2 hb => by
    have := dist_win aA2 aT2 gA 0 gT 0 U n2 V m2 d1 d2 A T wx (HSA.out.later hb) (HST.out.later hb) (by omega) (by omega) hAL hTL (by
      by_cases q : cA = U
      · exact .inl (by omega)
      · exact .inr (by rw [Nat.zero_add, ← haA2, if_neg q])) (by
      by_cases q : cT = V
      · exact .inl (by omega)
      · exact .inr (by rw [Nat.zero_add, ← haT2, if_neg q]))
    rw [k2'] at this
    exact this
  have HB6 : Hid (Below w2.heap.size w2 w6) := below_trans HB2.out hb6
  have wD : IntKind.i64.wrap ((D : Int) + 1) = (D1 : Int) := by rw [IntWalk.i64_in _ ⟨by omega, by omega⟩]; omega
  have tD1 : ((D1 : Int).tdiv 2) = (h1 : Int) := by rw [Int.tdiv_eq_ediv_of_nonneg (by omega)]; omega
  have tD2 : ((D : Int).tdiv 2) = (h2 : Int) := by rw [Int.tdiv_eq_ediv_of_nonneg (by omega)]; omega
  have wh1 : IntKind.i64.wrap (h1 : Int) = (h1 : Int) := by rw [IntWalk.i64_in _ ⟨by omega, by omega⟩]
  have wh2 : IntKind.i64.wrap (h2 : Int) = (h2 : Int) := by rw [IntWalk.i64_in _ ⟨by omega, by omega⟩]
  have s1' : fl ≤ X := by omega
  have s2' : tl ≤ Y := by omega
  have s3' : X ≤ cA := by omega
  have s4' : Y ≤ cT := by omega
  have s5' : X - fl = x := by omega
  have s6' : Y - tl = y := by omega
  have s7' : ¬ cA = fl := by omega
  have s8' : ¬ cT = tl := by omega
  have s9' : U ≤ fh := by omega
  have s10' : V ≤ th := by omega
  have s11' : fh ≤ cA := by omega
  have s12' : th ≤ cT := by omega
  have s13' : fh - U = n2 := by omega
  have s14' : th - V = m2 := by omega
  clear hX hY hU hV e1 e2 e3 e4 hbx hcy hfhn hthm hcut hb6 HCA2 HCT HB2 HNM hh1 hh2 hD1 hn2' hm2' hhalf k1' k2' HSA HST
  go_wp2_with fail
  refine Calls.mono HIN.out ?_
  rintro r w7 ⟨rfl, k2, hw⟩
  subst hw
  clear HIN
  go_wp2_with fail
  go_region_held3 (fun w' => Below w6.heap.size w6 w') (first | exact belN _ | exact (belN _).drew | assumption | (refine below_trans ?_ (by assumption); assumption) | (refine Below.drew ?_; assumption)) (first | (go_at_call 8; with_reducible refine Calls.mono (HC1.out _ _ _ _ _ (by first | exact belN _ | assumption) rfl rfl) ?_; rintro r w' ⟨rfl, hb⟩) | (go_at_call 8; with_reducible refine Calls.mono (HC2.out _ _ _ (by first | exact belN _ | assumption)) ?_; rintro r w' ⟨rfl, hb⟩))
  rename_i hHeld
  have HBF : Hid (Below w2.heap.size w2 w') := below_trans HB6.out hHeld
  clear hHeld
  go_wp2
  go_ret
  exact ⟨rfl, HBF.out⟩
end Go.Proofs.Qxb6602567a.Ms
