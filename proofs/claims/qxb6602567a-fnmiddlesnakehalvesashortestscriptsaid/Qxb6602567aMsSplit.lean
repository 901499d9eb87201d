/- The walk of the law on the split window. -/
import Derived.Test.Qxb6602567aMsTd
namespace Go.Proofs.Qxb6602567a.Ms
open Go Go.RowKit
set_option linter.unusedVariables false

theorem belN {w : World} (n : Nat) : Below w.heap.size w (w.drewN n) := ⟨rfl, rfl, rfl, Nat.le_refl _, fun _ _ => rfl⟩
theorem below_trans {w0 w1 w2 : World} (h : Below w0.heap.size w0 w1) (h2 : Below w1.heap.size w1 w2) : Below w0.heap.size w0 w2 :=
  ⟨h2.os.trans h.os, h2.tape.trans h.tape, h2.output.trans h.output, Nat.le_trans h.size h2.size, fun k hk => (h2.block k (Nat.lt_of_lt_of_le hk h.size)).trans (h.block k hk)⟩
theorem scells_at {l : List ByteArray} {i : Nat} (h : i < l.length) : (scells l)[i]? = some (.string (lineAt l i)) := by
  simp [scells, lineAt, List.getD_eq_getElem?_getD, List.getElem?_eq_getElem h]
/-- a copied slice that is not empty -/
theorem row_form {w : World} {v : Value} {l : List ByteArray} (h : w.ownsRow 0 9 1 v l.length (scells l)) (h0 : 0 < l.length) : ∃ g c, v = .slice (some ⟨g, 0, none⟩) l.length c ∧ g < w.heap.size ∧ ∀ i, i < l.length → w.cell? ⟨g, i, none⟩ = some (.string (lineAt l i)) := by
  rcases h.2 with ⟨-, h1⟩ | ⟨g, c, cur, rfl, -, hg, -⟩
  · omega
  · exact ⟨g, c, rfl, (h.lt g rfl).2, fun i hi => by rw [h.cellAt i (by omega)]; exact scells_at hi⟩
/-- the window's first and last lines differ: two changes at least -/
theorem win_two {A T : List ByteArray} {fl fh tl th n m : Nat} (h : Win A T (fl : Int) (fh : Int) (tl : Int) (th : Int)) (hfh : fh = fl + n) (hth : th = tl + m) : 0 < n ∧ 0 < m ∧ 2 ≤ Dst (eqA A T fl tl n m) n m := by
  have h1 := h.a1
  have h2 := h.b1
  have hn : 0 < n := by omega
  have hm : 0 < m := by omega
  refine ⟨hn, hm, two hn hm ?_ ?_⟩
  · have hne := h.first
    simp at hne
    simp [eqA, hne]
  · have hne := h.last
    simp at hne
    have e1 : fl + (n - 1) = fh - 1 := by omega
    have e2 : tl + (m - 1) = th - 1 := by omega
    simp [eqA, e1, e2, hne]
theorem run_lines {A T : List ByteArray} {fl tl n m x y j : Nat} (h : Run (eqA A T fl tl n m) x y j) (i : Nat) (hi : i < j) : lineAt A (fl + x + i) = lineAt T (tl + y + i) := by
  have := h i hi
  simp [eqA] at this
  rw [Nat.add_assoc, Nat.add_assoc]
  exact this.2.2

set_option maxHeartbeats 4000000 in
set_option maxRecDepth 100000 in
theorem splitT (a a2 : Option Addr) (A T : List ByteArray) (c c2 : Nat) (i1 i2 i3 i4 : Int) (w : World) (hA0 : a = none → A.length = 0) (hT0 : a2 = none → T.length = 0) (hA : StrsIn w a A) (hT : StrsIn w a2 T) (hn : A.length ≤ maxLen) (hn2 : T.length ≤ maxLen) (hz : Sized A) (hz2 : Sized T) :
    Calls Try.prog 4 #[.slice a A.length c, .slice a2 T.length c2, .int .i64 i1, .int .i64 i2, .int .i64 i3, .int .i64 i4] w fun e w' => e = .returned (.bool true) ∧ Below w.heap.size w w' := by
  have HZZ : Hid (Calls Try.prog 12 #[.slice a A.length c, .slice a2 T.length c2, .int .i64 i1, .int .i64 i2, .int .i64 i3, .int .i64 i4] w fun r w' => AnyB r ∧ w' = w) := zz12_any a a2 A T c c2 i1 i2 i3 i4 w hA hT hn hn2 hz hz2
  have HA0 : Hid (a = none → A.length = 0) := hA0
  have HT0 : Hid (a2 = none → T.length = 0) := hT0
  have HA : Hid (StrsIn w a A) := hA
  have HT : Hid (StrsIn w a2 T) := hT
  have HZ : Hid (Sized A ∧ Sized T) := ⟨hz, hz2⟩
  unfold maxLen at hn hn2
  clear hA0 hT0 hA hT hz hz2
  go_enter Try.func4, Try.ntmps4
  go_wp2_with fail
  refine Calls.mono HZZ.out ?_
  rintro r w' ⟨⟨b, rfl⟩, hw⟩
  subst hw
  clear HZZ
  cases b with
  | false =>
    go_wp2
    go_ret
    exact ⟨rfl, Below.refl _ _⟩
  | true =>
  by_cases t1 : (65536 : Int) < (A.length : Int)
  · have b1 : decide ((65536 : Int) < (A.length : Int)) = true := by simpa using t1
    go_wp2
    go_ret
    exact ⟨rfl, Below.refl _ _⟩
  have b1 : decide ((65536 : Int) < (A.length : Int)) = false := by simpa using t1
  by_cases t2 : (65536 : Int) < (T.length : Int)
  · have b2 : decide ((65536 : Int) < (T.length : Int)) = true := by simpa using t2
    go_wp2
    go_ret
    exact ⟨rfl, Below.refl _ _⟩
  have b2 : decide ((65536 : Int) < (T.length : Int)) = false := by simpa using t2
  have hAL : A.length ≤ 65536 := by omega
  have hTL : T.length ≤ 65536 := by omega
  go_wp2_with fail
  refine Calls.mono (text_any a A c w' HA.out hAL HZ.out.1) ?_
  rintro r w1 ⟨⟨s1, rfl, hs10, hs11⟩, hw⟩
  subst hw
  go_wp2_with fail
  refine Calls.mono (text_any a2 T c2 w1 HT.out hTL HZ.out.2) ?_
  rintro r w2 ⟨⟨s2, rfl, hs20, hs21⟩, hw⟩
  subst hw
  by_cases t3 : (1048576 : Int) < s1 + s2
  · go_wp2
    go_ret
    exact ⟨rfl, Below.refl _ _⟩
  clear b1 b2
  go_wp2_with fail
  refine Calls.mono (window_any a a2 A T c c2 i1 i2 i3 i4 w2 HA.out HT.out hAL hTL) ?_
  rintro r w3 ⟨⟨b, rfl, hwin⟩, k1, hw⟩
  subst hw
  cases b with
  | false =>
    clear hwin
    go_wp2
    go_ret
    exact ⟨rfl, belN _⟩
  | true =>
  have hwin := hwin rfl
  obtain ⟨fl, hfl⟩ := Int.eq_ofNat_of_zero_le hwin.a0
  obtain ⟨fh, hfh⟩ := Int.eq_ofNat_of_zero_le (show 0 ≤ i2 by have := hwin.a0; have := hwin.a1; omega)
  obtain ⟨tl, htl⟩ := Int.eq_ofNat_of_zero_le hwin.b0
  obtain ⟨th, hth⟩ := Int.eq_ofNat_of_zero_le (show 0 ≤ i4 by have := hwin.b0; have := hwin.b1; omega)
  subst hfl hfh htl hth
  obtain ⟨n, hn'⟩ : ∃ n, fh = fl + n := ⟨fh - fl, by have := hwin.a1; omega⟩
  obtain ⟨m, hm'⟩ : ∃ m, th = tl + m := ⟨th - tl, by have := hwin.b1; omega⟩
  have hA2 : fh ≤ A.length := by have := hwin.a2; omega
  have hT2 : th ≤ T.length := by have := hwin.b2; omega
  have htwo := win_two hwin hn' hm'
  have HW : Hid (0 < n ∧ 0 < m ∧ 2 ≤ Dst (eqA A T fl tl n m) n m) := htwo
  have HNM : Hid (fh = fl + n ∧ th = tl + m) := ⟨hn', hm'⟩
  have hAp : 0 < A.length := by omega
  have hTp : 0 < T.length := by omega
  clear hwin hn' hm' htwo
  go_wp2_with fail
  refine Calls.mono (clone_any (w2.drewN k1) a A.length c A rfl HA0.out (by omega) (HA.out.drewN k1)) ?_
  rintro r w4 ⟨⟨v1, rfl, ho1, hf1⟩, hb1⟩
  obtain ⟨gA, cA, rfl, lA, cellA⟩ := row_form ho1 hAp
  have HCA : Hid (∀ i, i < A.length → w4.cell? ⟨gA, i, none⟩ = some (.string (lineAt A i))) := cellA
  have HB1 : Hid (Below w2.heap.size w2 w4) := below_trans (belN k1) hb1
  clear ho1 hf1 hb1 cellA
  go_wp2_with fail
  refine Calls.mono (clone_any w4 a2 T.length c2 T rfl HT0.out (by omega) (HT.out.later HB1.out)) ?_
  rintro r w5 ⟨⟨v2, rfl, ho2, hf2⟩, hb2⟩
  obtain ⟨gT, cT, rfl, lT, cellT⟩ := row_form ho2 hTp
  have HCT : Hid (∀ i, i < T.length → w5.cell? ⟨gT, i, none⟩ = some (.string (lineAt T i))) := cellT
  have HCA2 : Hid (∀ i, i < A.length → w5.cell? ⟨gA, i, none⟩ = some (.string (lineAt A i))) := fun i hi => (hb2.cell (p := ⟨gA, i, none⟩) lA).trans (HCA.out i hi)
  have HB2 : Hid (Below w2.heap.size w2 w5) := below_trans HB1.out hb2
  have lA2 : gA < w5.heap.size := Nat.lt_of_lt_of_le lA hb2.size
  clear ho2 hf2 hb2 cellT HCA HB1 lA
  go_wp2_with fail
  refine Calls.mono (tdmid_any w5 w5 gA gT cA cT fl fh tl th n m A T HCA2.out HCT.out lA2 lT (Below.refl _ _) HNM.out.1 HNM.out.2 hA2 hT2 hAL hTL) ?_
  rintro r w6 ⟨x, y, j, hr, hcut, hb6⟩
  obtain ⟨X, hX⟩ : ∃ X, X = fl + x := ⟨_, rfl⟩
  obtain ⟨Y, hY⟩ : ∃ Y, Y = tl + y := ⟨_, rfl⟩
  obtain ⟨U, hU⟩ : ∃ U, U = X + j := ⟨_, rfl⟩
  obtain ⟨V, hV⟩ : ∃ V, V = Y + j := ⟨_, rfl⟩
  have e1 : (fl : Int) + (x : Int) = (X : Int) := by omega
  have e2 : (tl : Int) + (y : Int) = (Y : Int) := by omega
  have e3 : (fl : Int) + ((x + j : Nat) : Int) = (U : Int) := by omega
  have e4 : (tl : Int) + ((y + j : Nat) : Int) = (V : Int) := by omega
  rw [e1, e2, e3, e4] at hr
  subst hr
  have hrev := eq_rev A T fl tl n m
  rw [← HNM.out.1, ← HNM.out.2] at hrev
  have hsp := hcut.split hrev HW.out.2.2
  have hbx := hcut.bx
  have hcy := hcut.cy
  have hfhn := HNM.out.1
  have hthm := HNM.out.2
  have HIN : Hid (Calls Try.prog 11 #[.slice (some ⟨gA, 0, none⟩) A.length cA, .slice (some ⟨gT, 0, none⟩) T.length cT, .int .i64 (fl : Int), .int .i64 (fh : Int), .int .i64 (tl : Int), .int .i64 (th : Int), .int .i64 (X : Int), .int .i64 (Y : Int), .int .i64 (U : Int), .int .i64 (V : Int)] w6 fun r w' => r = .returned (.bool true) ∧ ∃ n, w' = w6.drewN n) :=
    within_any _ _ A T cA cT fl fh tl th X Y U V j w6 (fun i hi => ⟨gA, 0, rfl, by rw [Nat.zero_add]; exact (hb6.cell (p := ⟨gA, i, none⟩) lA2).trans (HCA2.out i hi)⟩) (fun i hi => ⟨gT, 0, rfl, by rw [Nat.zero_add]; exact (hb6.cell (p := ⟨gT, i, none⟩) lT).trans (HCT.out i hi)⟩) hAL hTL (by omega) (by omega) hU hV (by omega) (by omega) hA2 hT2 (fun i hi => by rw [hX, hY]; exact run_lines hcut.run i hi)
  have HB6 : Hid (Below w2.heap.size w2 w6) := below_trans HB2.out hb6
  have hUV : U ≠ fl ∨ V ≠ tl := by omega
  have hXY : X ≠ fh ∨ Y ≠ th := by omega
  clear hX hY hU hV e1 e2 e3 e4 hrev hsp hbx hcy hfhn hthm hcut hb6 HCA2 HCT HB2 HW HNM
  go_wp2_with fail
  refine Calls.mono HIN.out ?_
  rintro r w7 ⟨rfl, k2, hw⟩
  subst hw
  clear HIN
  by_cases d1 : U = fl
  · have d2 : V ≠ tl := by omega
    have g1 : ((U : Int) == (fl : Int)) = true := by rw [beq_iff_eq]; omega
    have g2 : ((V : Int) == (tl : Int)) = false := by rw [beq_eq_false_iff_ne]; omega
    have g3 : (U == fl) = true := by rw [beq_iff_eq]; omega
    have g4 : (V == tl) = false := by rw [beq_eq_false_iff_ne]; omega
    clear d1 d2 hUV
    by_cases d3 : X = fh
    · have d4 : Y ≠ th := by omega
      have g5 : ((X : Int) == (fh : Int)) = true := by rw [beq_iff_eq]; omega
      have g6 : ((Y : Int) == (th : Int)) = false := by rw [beq_eq_false_iff_ne]; omega
      have g7 : (X == fh) = true := by rw [beq_iff_eq]; omega
      have g8 : (Y == th) = false := by rw [beq_eq_false_iff_ne]; omega
      clear d3 d4 hXY
      go_wp2
      go_ret
      exact ⟨rfl, below_trans HB6.out (belN _)⟩
    · have g5 : ((X : Int) == (fh : Int)) = false := by rw [beq_eq_false_iff_ne]; omega
      have g7 : (X == fh) = false := by rw [beq_eq_false_iff_ne]; omega
      clear d3 hXY
      go_wp2
      go_ret
      exact ⟨rfl, below_trans HB6.out (belN _)⟩
  · have g1 : ((U : Int) == (fl : Int)) = false := by rw [beq_eq_false_iff_ne]; omega
    have g3 : (U == fl) = false := by rw [beq_eq_false_iff_ne]; omega
    clear d1 hUV
    by_cases d3 : X = fh
    · have d4 : Y ≠ th := by omega
      have g5 : ((X : Int) == (fh : Int)) = true := by rw [beq_iff_eq]; omega
      have g6 : ((Y : Int) == (th : Int)) = false := by rw [beq_eq_false_iff_ne]; omega
      have g7 : (X == fh) = true := by rw [beq_iff_eq]; omega
      have g8 : (Y == th) = false := by rw [beq_eq_false_iff_ne]; omega
      clear d3 d4 hXY
      go_wp2
      go_ret
      exact ⟨rfl, below_trans HB6.out (belN _)⟩
    · have g5 : ((X : Int) == (fh : Int)) = false := by rw [beq_eq_false_iff_ne]; omega
      have g7 : (X == fh) = false := by rw [beq_eq_false_iff_ne]; omega
      clear d3 hXY
      go_wp2
      go_ret
      exact ⟨rfl, below_trans HB6.out (belN _)⟩
end Go.Proofs.Qxb6602567a.Ms
