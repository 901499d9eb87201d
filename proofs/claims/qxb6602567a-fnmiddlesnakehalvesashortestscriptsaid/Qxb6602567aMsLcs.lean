/- tdLCS, tdDistance. -/
import Derived.Test.Qxb6602567aMsAux2
namespace Go.Proofs.Qxb6602567a.Ms
open Go Go.RowKit
set_option linter.unusedVariables false

def eqL (A T : List ByteArray) (x y : Nat) : Bool := decide (lineAt A x = lineAt T y)
theorem lcs_le {e : Nat → Nat → Bool} (x y : Nat) : Lcs e x y ≤ x := by
  have h1 := dst_lcs (e := e) _ x y (Nat.le_refl _)
  have h2 := gap_y (e := e) x y
  omega
/-- the two rows of the programme -/
structure L2 (w wr : World) (g1 g2 M : Nat) (P C : List Int) : Prop where
  r1 : wr.ownsRow 0 3 1 (.slice (some ⟨g1, 0, none⟩) M M) M (icells P)
  r2 : wr.ownsRow 0 3 1 (.slice (some ⟨g2, 0, none⟩) M M) M (icells C)
  ne : g1 ≠ g2
  bel : Below w.heap.size w wr
  b1 : w.heap.size ≤ g1
  b2 : w.heap.size ≤ g2
section
variable {w wr : World} {g1 g2 M : Nat} {P C : List Int}
theorem L2.swap (h : L2 w wr g1 g2 M P C) : L2 w wr g2 g1 M C P := ⟨h.r2, h.r1, fun e => h.ne e.symm, h.bel, h.b2, h.b1⟩
theorem L2.drewN (h : L2 w wr g1 g2 M P C) (k : Nat) : L2 w (wr.drewN k) g1 g2 M P C := ⟨h.r1, h.r2, h.ne, ⟨h.bel.os, h.bel.tape, h.bel.output, h.bel.size, h.bel.block⟩, h.b1, h.b2⟩
theorem L2.set (h : L2 w wr g1 g2 M P C) (i : Nat) (v : Int) : L2 w (wr.setCell ⟨g2, i, none⟩ (.int .i64 v)) g1 g2 M P (C.set i v) := by
  have hst := h.r2.stored i (.int .i64 v)
  rw [icells_set] at hst
  exact ⟨ownsRow_setCell_other h.r1 (by simp [Value.ownBlock]; exact h.ne) _, hst.1, h.ne, h.bel.setCell h.b2 _, h.b1, h.b2⟩
theorem L2.lenP (h : L2 w wr g1 g2 M P C) : P.length = M := by
  have := h.r1.1
  simpa [icells] using this
theorem L2.lenC (h : L2 w wr g1 g2 M P C) : C.length = M := h.swap.lenP
theorem L2.cellP (h : L2 w wr g1 g2 M P C) {i : Nat} (hi : i < M) : wr.cell? ⟨g1, i, none⟩ = some (.int .i64 (ig P i)) := by
  rw [h.r1.cellAt i (by omega)]
  exact icells_at (by rw [h.lenP]; exact hi)
theorem L2.cellC (h : L2 w wr g1 g2 M P C) {i : Nat} (hi : i < M) : wr.cell? ⟨g2, i, none⟩ = some (.int .i64 (ig C i)) := h.swap.cellP hi
theorem L2.frC (h : L2 w wr g1 g2 M P C) (i : Nat) : wr.frozen? ⟨g2, i, none⟩ = false := h.r2.frozenAt i
end
/-- the row holds the numbers of line x, up to y -/
def LRow (e : Nat → Nat → Bool) (x n : Nat) (P : List Int) : Prop := ∀ y, y ≤ n → ig P y = ((Lcs e x y : Nat) : Int)
theorem LRow.next {e : Nat → Nat → Bool} {x n : Nat} {P : List Int} (h : LRow e x n P) (hl : n + 1 < P.length) (v : Int) (hv : v = ((Lcs e x (n + 1) : Nat) : Int)) : LRow e x (n + 1) (P.set (n + 1) v) := fun y hy => by
  by_cases c : y = n + 1
  · subst c; rw [ig_set_same hl]; exact hv
  · rw [ig_set_other (by omega)]; exact h y (by omega)
theorem rep_icells2 (n : Nat) : List.replicate n (Value.int .i64 0) = icells (List.replicate n 0) := by simp [icells]

set_option maxHeartbeats 2000000 in
set_option maxRecDepth 100000 in
theorem lcs_any (a a2 : Option Addr) (A T : List ByteArray) (c c2 : Nat) (w : World) (hA : StrsIn w a A) (hT : StrsIn w a2 T) (hAL : A.length ≤ 65536) (hTL : T.length ≤ 65536) :
    Calls Try.prog 13 #[.slice a A.length c, .slice a2 T.length c2] w fun r w' => r = .returned (.int .i64 ((Lcs (eqL A T) A.length T.length : Nat) : Int)) ∧ Below w.heap.size w w' := by
  obtain ⟨i3, hi3, hy0, hy1, hy2⟩ := info_parts info3
  obtain ⟨M, hM⟩ : ∃ M, M = T.length + 1 := ⟨_, rfl⟩
  have wM : IntKind.i64.wrap ((T.length : Int) + 1) = (M : Int) := by rw [IntWalk.i64_in _ ⟨by omega, by omega⟩]; omega
  have hMb : M ≤ 65537 := by omega
  have hTM : T.length < M := by omega
  have HA : Hid (StrsIn w a A) := hA
  have HT : Hid (StrsIn w a2 T) := hT
  have HM : Hid (M = T.length + 1) := hM
  clear hA hT hM
  go_enter Try.func13, Try.ntmps13
  go_wp2_with (refine wpList_make_full _ rfl _ _ 30 rfl 0 3 i3 (.int .i64 0) 1 Try.underlying30 hi3 hy0 hy1 .i64 .i64 (M : Int) (M : Int) M rfl rfl rfl rfl ?c1 ?c2 (Nat.zero_le _) ?_)
  case c1 => rw [hy2]; omega
  case c2 => unfold maxLen; omega
  intro w1 ho1 hg1
  have HO1 : Hid (w1.ownsRow 0 3 1 (.slice (some ⟨w.heap.size, 0, none⟩) M M) M (icells (List.replicate M 0))) := by
    rw [toList_madeCells_one, rep_icells2] at ho1
    exact ho1
  have hs1 : w.heap.size < w1.heap.size := (HO1.out.lt _ rfl).2
  have HB1 : Hid (Below w.heap.size w w1) := (Below.refl _ _).grown hg1 (Nat.le_refl _) (fun k hk => by cases hk)
  clear ho1 hg1
  go_wp2_with (refine wpList_make_full _ rfl _ _ 30 rfl 0 3 i3 (.int .i64 0) 1 Try.underlying30 hi3 hy0 hy1 .i64 .i64 (M : Int) (M : Int) M rfl rfl rfl rfl ?c1 ?c2 (Nat.zero_le _) ?_)
  case c1 => rw [hy2]; omega
  case c2 => unfold maxLen; omega
  intro w2 ho2 hg2
  have HL : Hid (L2 w w2 w.heap.size w1.heap.size M (List.replicate M 0) (List.replicate M 0)) := by
    rw [toList_madeCells_one, rep_icells2] at ho2
    have hb2 : Below w1.heap.size w1 w2 := (Below.refl _ _).grown hg2 (Nat.le_refl _) (fun k hk => by cases hk)
    refine ⟨?_, ho2, by omega, ⟨hb2.os.trans HB1.out.os, hb2.tape.trans HB1.out.tape, hb2.output.trans HB1.out.output, Nat.le_trans HB1.out.size hb2.size, fun k hk => (hb2.block k (by omega)).trans (HB1.out.block k hk)⟩, Nat.le_refl _, by omega⟩
    have h := HO1.out
    refine ⟨h.1, ?_⟩
    rcases h.2 with hn | ⟨g, cap, cur, he, hb, hgg, rest⟩
    · exact .inl hn
    · refine .inr ⟨g, cap, cur, he, hb, ?_, rest⟩
      have eg : g = w.heap.size := by simp at he; exact he.1.symm
      rw [hb2.block g (by omega)]
      exact hgg
  have HR0 : Hid (LRow (eqL A T) 0 T.length (List.replicate M 0)) := fun y hy => by
    rw [lcs_0y]
    have hy' : y < M := by have := HM.out; omega
    simp [ig, List.getD_eq_getElem?_getD, hy']
  clear ho2 hg2 HO1 HB1 hs1
  go_wp2_with fail
  go_loopw [5, 6, 7] (fun v5 v6 v7 wr => ∃ (i g1 g2 : Nat) (P C : List Int), i ≤ A.length ∧ v5 = .slice (some ⟨g1, 0, none⟩) M M ∧ v6 = .slice (some ⟨g2, 0, none⟩) M M ∧ v7 = .int .i64 (i : Int) ∧ Hid (L2 w wr g1 g2 M P C ∧ LRow (eqL A T) i T.length P)) (fun _ _ v7 _ => A.length - (intOf v7).toNat)
  case atStart => exact ⟨0, _, _, _, _, Nat.zero_le _, rfl, rfl, rfl, ⟨HL.out, HR0.out⟩⟩
  case round =>
    clear HL HR0
    obtain ⟨i, g1, g2, P, C, hi, rfl, rfl, rfl, HH⟩ := hrel
    by_cases hiA : i < A.length
    · have hM0 : (0 : Int) < (M : Int) := by omega
      have f1 := HH.out.1.frC 0
      have f2 := HH.out.1.cellC (i := 0) (by omega)
      have HH2 : Hid (L2 w (wr.setCell ⟨g2, 0, none⟩ (.int .i64 0)) g1 g2 M P (C.set 0 0) ∧ LRow (eqL A T) i T.length P ∧ LRow (eqL A T) (i + 1) 0 (C.set 0 0)) :=
        ⟨HH.out.1.set 0 0, HH.out.2, fun y hy => by
          have : y = 0 := by omega
          subst this
          rw [ig_set_same (by have := HH.out.1.lenC; omega), lcs_x0]; rfl⟩
      clear HH
      go_wp2_with fail
      clear f1 f2
      go_loopw [8] (fun v8 wr => ∃ (j : Nat) (C : List Int), j ≤ T.length ∧ v8 = .int .i64 (j : Int) ∧ Hid (L2 w wr g1 g2 M P C ∧ LRow (eqL A T) i T.length P ∧ LRow (eqL A T) (i + 1) j C)) (fun v8 _ => T.length - (intOf v8).toNat)
      case atStart => exact ⟨0, _, Nat.zero_le _, rfl, HH2⟩
      case round =>
        clear HH2
        obtain ⟨j, C1, hj, rfl, HJ⟩ := hrel
        by_cases hjT : j < T.length
        · obtain ⟨j1, hj1⟩ : ∃ j1, j1 = j + 1 := ⟨_, rfl⟩
          have wj : IntKind.i64.wrap ((j : Int) + 1) = (j1 : Int) := by rw [IntWalk.i64_in _ ⟨by omega, by omega⟩]; omega
          obtain ⟨bA, oA, rfl, x1⟩ := (HA.out.later HJ.out.1.bel) i hiA
          obtain ⟨bT, oT, rfl, y1⟩ := (HT.out.later HJ.out.1.bel) j hjT
          have q1 : (i : Int) < (A.length : Int) := by omega
          have q2 : (j : Int) < (T.length : Int) := by omega
          have q3 : (j : Int) < (M : Int) := by omega
          have q4 : (j1 : Int) < (M : Int) := by have := HM.out; omega
          have q5 : (0 : Int) ≤ (j1 : Int) := by omega
          have p1 := HJ.out.1.cellP (i := j) (by omega)
          have p2 := HJ.out.1.cellP (i := j1) (by omega)
          have p3 := HJ.out.1.cellC (i := j) (by omega)
          have p4 := HJ.out.1.cellC (i := j1) (by omega)
          have p5 := HJ.out.1.frC j1
          have hl1 := lcs_le (e := eqL A T) i j
          have hl2 := lcs_le (e := eqL A T) i j1
          have hl3 := lcs_le (e := eqL A T) (i + 1) j
          obtain ⟨L1, hL1⟩ : ∃ L1, L1 = Lcs (eqL A T) i j := ⟨_, rfl⟩
          obtain ⟨L2', hL2⟩ : ∃ L2', L2' = Lcs (eqL A T) i j1 := ⟨_, rfl⟩
          obtain ⟨L3, hL3⟩ : ∃ L3, L3 = Lcs (eqL A T) (i + 1) j := ⟨_, rfl⟩
          rw [← hL1] at hl1
          rw [← hL2] at hl2
          rw [← hL3] at hl3
          have e1 : ig P j = (L1 : Int) := by rw [hL1]; exact HJ.out.2.1 j (by omega)
          have e2 : ig P j1 = (L2' : Int) := by rw [hL2]; exact HJ.out.2.1 j1 (by omega)
          have e3 : ig C1 j = (L3 : Int) := by rw [hL3]; exact HJ.out.2.2 j (by omega)
          rw [e1] at p1
          rw [e2] at p2
          rw [e3] at p3
          have HLS : Hid (Lcs (eqL A T) (i + 1) (j + 1) = if eqL A T i j then L1 + 1 else max L2' L3) := by
            show _ = _
            rw [lcs_ss, hL1, hL2, hL3, hj1]
          have HJ1 : Hid (j1 = j + 1) := hj1
          have hNX : ∀ (kk : Nat) (v : Nat), v = Lcs (eqL A T) (i + 1) (j + 1) → L2 w ((wr.drewN kk).setCell ⟨g2, j1, none⟩ (.int .i64 (v : Int))) g1 g2 M P (C1.set j1 (v : Int)) ∧ LRow (eqL A T) i T.length P ∧ LRow (eqL A T) (i + 1) (j + 1) (C1.set j1 (v : Int)) := fun kk v hv =>
            ⟨(HJ.out.1.drewN kk).set j1 (v : Int), HJ.out.2.1, by rw [hj1]; exact HJ.out.2.2.next (by have := HJ.out.1.lenC; have := HM.out; omega) _ (by rw [hv])⟩
          have HNX : Hid (∀ (kk : Nat) (v : Nat), v = Lcs (eqL A T) (i + 1) (j + 1) → L2 w ((wr.drewN kk).setCell ⟨g2, j1, none⟩ (.int .i64 (v : Int))) g1 g2 M P (C1.set j1 (v : Int)) ∧ LRow (eqL A T) i T.length P ∧ LRow (eqL A T) (i + 1) (j + 1) (C1.set j1 (v : Int))) := hNX
          clear hNX hL1 hL2 hL3 e1 e2 e3 hj1 HJ
          by_cases c1 : lineAt A i = lineAt T j
          · have c2 : ((lineAt A i).toList == (lineAt T j).toList) = true := by rw [c1]; simp
            have HV : Hid (L1 + 1 = Lcs (eqL A T) (i + 1) (j + 1)) := by
              show _ = _
              rw [HLS.out, if_pos (by simp [eqL, c1])]
            clear c1
            go_wp2_with fail
            refine wp_region_quiet_lit (by kernel_rfl) (by kernel_rfl) ?_
            repeat (with_reducible refine wpQuiet_step (fun K hK => ?_); go_simp; with_reducible refine hK _ ?_; clear hK K)
            with_reducible refine wpQuiet_nil ?_
            intro _ hw1
            obtain ⟨nq, hw2⟩ := hw1
            subst hw2
            go_wp2_with fail
            go_roundw
            case rel => exact ⟨j + 1, C1.set j1 ((L1 + 1 : Nat) : Int), by omega, by rw [HJ1.out], HNX.out _ (L1 + 1) HV.out⟩
            case measure => have := HJ1.out; simp [intOf]; omega
          · have c2 : ((lineAt A i).toList == (lineAt T j).toList) = false := (Go.Lib.bytes_beq_false_iff _ _).2 c1
            by_cases c3 : L3 ≤ L2'
            · have c4 : decide (L3 ≤ L2') = true := by simpa using c3
              have HV : Hid (L2' = Lcs (eqL A T) (i + 1) (j + 1)) := by
                show _ = _
                rw [HLS.out, if_neg (by simp [eqL, c1])]; omega
              clear c1
              go_wp2_with fail
              refine wp_region_quiet_lit (by kernel_rfl) (by kernel_rfl) ?_
              repeat (with_reducible refine wpQuiet_step (fun K hK => ?_); go_simp; with_reducible refine hK _ ?_; clear hK K)
              with_reducible refine wpQuiet_nil ?_
              intro _ hw1
              obtain ⟨nq, hw2⟩ := hw1
              subst hw2
              go_wp2_with fail
              refine wp_region_quiet_lit (by kernel_rfl) (by kernel_rfl) ?_
              repeat (with_reducible refine wpQuiet_step (fun K hK => ?_); go_simp; with_reducible refine hK _ ?_; clear hK K)
              with_reducible refine wpQuiet_nil ?_
              intro _ hw1
              obtain ⟨nq, hw2⟩ := hw1
              subst hw2
              go_wp2_with fail
              go_roundw
              case rel => exact ⟨j + 1, C1.set j1 (L2' : Int), by omega, by rw [HJ1.out], by first | exact HNX.out _ L2' HV.out | (simp only [World.drewN_drewN]; exact HNX.out _ L2' HV.out)⟩
              case measure => have := HJ1.out; simp [intOf]; omega
            · have c4 : decide (L3 ≤ L2') = false := by simpa using c3
              have HV : Hid (L3 = Lcs (eqL A T) (i + 1) (j + 1)) := by
                show _ = _
                rw [HLS.out, if_neg (by simp [eqL, c1])]; omega
              clear c1
              go_wp2_with fail
              refine wp_region_quiet_lit (by kernel_rfl) (by kernel_rfl) ?_
              repeat (with_reducible refine wpQuiet_step (fun K hK => ?_); go_simp; with_reducible refine hK _ ?_; clear hK K)
              with_reducible refine wpQuiet_nil ?_
              intro _ hw1
              obtain ⟨nq, hw2⟩ := hw1
              subst hw2
              go_wp2_with fail
              refine wp_region_quiet_lit (by kernel_rfl) (by kernel_rfl) ?_
              repeat (with_reducible refine wpQuiet_step (fun K hK => ?_); go_simp; with_reducible refine hK _ ?_; clear hK K)
              with_reducible refine wpQuiet_nil ?_
              intro _ hw1
              obtain ⟨nq, hw2⟩ := hw1
              subst hw2
              go_wp2_with fail
              go_roundw
              case rel => exact ⟨j + 1, C1.set j1 (L3 : Int), by omega, by rw [HJ1.out], by first | exact HNX.out _ L3 HV.out | (simp only [World.drewN_drewN]; exact HNX.out _ L3 HV.out)⟩
              case measure => have := HJ1.out; simp [intOf]; omega
        · have HK : Hid (L2 w wr g2 g1 M C1 P ∧ LRow (eqL A T) (i + 1) T.length C1) := ⟨HJ.out.1.swap, by have e : j = T.length := (by omega); have := HJ.out.2.2; rw [e] at this; exact this⟩
          clear HJ
          go_wp2_with fail
          go_roundw
          case rel => first | exact ⟨i + 1, g2, g1, C1, P, by omega, rfl, rfl, by go_num, HK⟩ | ((repeat apply Exists.intro); exact ⟨⟨i + 1, g2, g1, C1, P, by omega, rfl, rfl, by go_num, HK⟩, rfl⟩)
          case measure => simp [intOf]; omega
    · have hp := HH.out.1.cellP (i := T.length) (by omega)
      have e : i = A.length := by omega
      have e2 := HH.out.2 T.length (Nat.le_refl _)
      rw [e2, e] at hp
      have HBE : Hid (Below w.heap.size w wr) := HH.out.1.bel
      have q1 : (T.length : Int) < (M : Int) := by omega
      clear HH e e2
      go_wp2
      go_ret
      exact ⟨rfl, HBE.out⟩

set_option maxHeartbeats 1000000 in
theorem dist_any (a a2 : Option Addr) (A T : List ByteArray) (c c2 : Nat) (w : World) (hA : StrsIn w a A) (hT : StrsIn w a2 T) (hAL : A.length ≤ 65536) (hTL : T.length ≤ 65536) :
    Calls Try.prog 8 #[.slice a A.length c, .slice a2 T.length c2] w fun r w' => r = .returned (.int .i64 ((Dst (eqL A T) A.length T.length : Nat) : Int)) ∧ Below w.heap.size w w' := by
  have HC : Hid (Calls Try.prog 13 #[.slice a A.length c, .slice a2 T.length c2] w fun r w' => r = .returned (.int .i64 ((Lcs (eqL A T) A.length T.length : Nat) : Int)) ∧ Below w.heap.size w w') := lcs_any a a2 A T c c2 w hA hT hAL hTL
  have hle := lcs_le (e := eqL A T) A.length T.length
  have hd := dst_lcs (e := eqL A T) _ A.length T.length (Nat.le_refl _)
  obtain ⟨L, hL⟩ : ∃ L, L = Lcs (eqL A T) A.length T.length := ⟨_, rfl⟩
  obtain ⟨D, hD⟩ : ∃ D, D = Dst (eqL A T) A.length T.length := ⟨_, rfl⟩
  rw [← hL] at HC hle hd
  rw [← hD] at hd ⊢
  have HD : Hid (D + 2 * L = A.length + T.length) := hd
  clear hA hT hL hD hd
  go_enter Try.func8, Try.ntmps8
  go_wp2_with fail
  refine Calls.mono HC.out ?_
  rintro r w1 ⟨rfl, hb⟩
  have HB : Hid (Below w.heap.size w w1) := hb
  clear hb HC
  go_wp2
  go_ret
  refine ⟨?_, HB.out⟩
  have := HD.out
  have e : (A.length : Int) + (T.length : Int) - 2 * (L : Int) = (D : Int) := by omega
  first | (show Ending.returned (Value.int _ _) = _; rw [e]) | rw [← e]
end Go.Proofs.Qxb6602567a.Ms
