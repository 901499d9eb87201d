/- ZZMiddleSnake, tdMiddleSnake: the searcher and its rows are made. -/
import Derived.Test.Qxb6602567aMsMain
import Derived.Test.Qxb6602567aMsAux2
namespace Go.Proofs.Qxb6602567a.Ms
open Go Go.RowKit
set_option linter.unusedVariables false

theorem kal {w : World} {a : Addr} {o : Obj} {v : Value} (h : w.cell? a = some v) : (w.alloc o).cell? a = some v := (World.cell?_alloc_some w a o (by rw [h]; rfl)).trans h
theorem cell_blk {w : World} {B : Nat} {cs : Array Value} {t : TypeId} (h : w.heap[B]? = some (.cells cs t (0, 0))) (o : Nat) : w.cell? ⟨B, o, none⟩ = cs[o]? := by simp [World.cell?, h]

set_option maxHeartbeats 1000000 in
theorem zzmid_any (w0 w : World) (gA gT gf gb cA cT R cf cb fl fh tl th n m : Nat) (A T : List ByteArray) (F0 G0 : List Int)
    (hA0 : ∀ i, i < A.length → w.cell? ⟨gA, i, none⟩ = some (.string (lineAt A i))) (hT0 : ∀ i, i < T.length → w.cell? ⟨gT, i, none⟩ = some (.string (lineAt T i)))
    (hf : w.ownsRow 0 3 1 (.slice (some ⟨gf, 0, none⟩) R cf) R (icells F0)) (hg : w.ownsRow 0 3 1 (.slice (some ⟨gb, 0, none⟩) R cb) R (icells G0)) (nA : gf ≠ gA ∧ gf ≠ gT ∧ gf ≠ gb ∧ gb ≠ gA ∧ gb ≠ gT)
    (bel : Below w0.heap.size w0 w) (bf : w0.heap.size ≤ gf) (bg : w0.heap.size ≤ gb)
    (hfh : fh = fl + n) (hth : th = tl + m) (hA : fh ≤ A.length) (hT : th ≤ T.length) (hAL : A.length ≤ 65536) (hTL : T.length ≤ 65536) (hR : R = n + m + 4) :
    Calls Try.prog 14 #[.slice (some ⟨gA, 0, none⟩) A.length cA, .slice (some ⟨gT, 0, none⟩) T.length cT, .slice (some ⟨gf, 0, none⟩) R cf, .slice (some ⟨gb, 0, none⟩) R cb, .int .i64 (fl : Int), .int .i64 (fh : Int), .int .i64 (tl : Int), .int .i64 (th : Int)] w fun r w' => Ans w0 (eqA A T fl tl n m) (eqB A T fh th n m) n m fl tl r w' := by
  have hlf : gf < w.heap.size := (hf.lt gf rfl).2
  have hlg : gb < w.heap.size := (hg.lt gb rfl).2
  have hM : ∀ o, (w.alloc o).heap[w.heap.size]? = some (.cells #[.slice (some ⟨gA, 0, none⟩) A.length cA, .slice (some ⟨gT, 0, none⟩) T.length cT, .slice none 0 0, .slice (some ⟨gf, 0, none⟩) R cf, .slice (some ⟨gb, 0, none⟩) R cb] 35 (0, 0)) →
      Mem w0 (w.alloc o) w.heap.size gA gT gf gb cA cT R cf cb A T F0 G0 := fun o ho =>
    ⟨by rw [cell_blk ho]; rfl, by rw [cell_blk ho]; rfl, by rw [cell_blk ho]; rfl, by rw [cell_blk ho]; rfl, fun i hi => kal (hA0 i hi), fun i hi => kal (hT0 i hi), hf.alloc o, hg.alloc o, ⟨by omega, nA.1, nA.2.1, nA.2.2.1⟩, ⟨by omega, nA.2.2.2.1, nA.2.2.2.2, fun e => nA.2.2.1 e.symm⟩, bel.alloc bel.size o, bf, bg⟩
  have hC : ∀ o, (w.alloc o).heap[w.heap.size]? = some (.cells #[.slice (some ⟨gA, 0, none⟩) A.length cA, .slice (some ⟨gT, 0, none⟩) T.length cT, .slice none 0 0, .slice (some ⟨gf, 0, none⟩) R cf, .slice (some ⟨gb, 0, none⟩) R cb] 35 (0, 0)) → _ := fun o ho => middle_any w0 (w.alloc o) w.heap.size gA gT gf gb cA cT R cf cb fl fh tl th n m A T F0 G0 (hM o ho) hfh hth hA hT hAL hTL hR
  have HC : Hid _ := hC
  clear hC hM hA0 hT0 hf hg nA bel bf bg hfh hth hR
  go_enter Try.func14, Try.ntmps14
  go_wp2_with fail
  refine Calls.mono (HC.out _ (Go.heap_alloc_new w _)) ?_
  rintro r w1 ⟨x, y, j, rfl, hc, hb⟩
  have HA : Hid (Cuts (eqA A T fl tl n m) (eqB A T fh th n m) n m x y j ∧ Below w0.heap.size w0 w1) := ⟨hc, hb⟩
  clear hc hb HC
  go_wp2_with fail
  refine bodyPost_ret (results_tmp4 rfl _ _ _) rfl ?_
  exact ⟨x, y, j, rfl, HA.out.1, HA.out.2⟩

theorem rep_icells (n : Nat) : List.replicate n (Value.int .i64 0) = icells (List.replicate n 0) := by simp [icells]
set_option maxHeartbeats 1000000 in
theorem tdmid_any (w0 w : World) (gA gT cA cT fl fh tl th n m : Nat) (A T : List ByteArray)
    (hA0 : ∀ i, i < A.length → w.cell? ⟨gA, i, none⟩ = some (.string (lineAt A i))) (hT0 : ∀ i, i < T.length → w.cell? ⟨gT, i, none⟩ = some (.string (lineAt T i))) (lA : gA < w.heap.size) (lT : gT < w.heap.size)
    (bel : Below w0.heap.size w0 w) (hfh : fh = fl + n) (hth : th = tl + m) (hA : fh ≤ A.length) (hT : th ≤ T.length) (hAL : A.length ≤ 65536) (hTL : T.length ≤ 65536) :
    Calls Try.prog 10 #[.slice (some ⟨gA, 0, none⟩) A.length cA, .slice (some ⟨gT, 0, none⟩) T.length cT, .int .i64 (fl : Int), .int .i64 (fh : Int), .int .i64 (tl : Int), .int .i64 (th : Int)] w fun r w' => Ans w0 (eqA A T fl tl n m) (eqB A T fh th n m) n m fl tl r w' := by
  obtain ⟨i3, hi3, hy0, hy1, hy2⟩ := info_parts info3
  obtain ⟨R, hR⟩ : ∃ R, R = n + m + 4 := ⟨_, rfl⟩
  have wN : IntKind.i64.wrap ((fh : Int) - (fl : Int)) = (n : Int) := by rw [IntWalk.i64_in _ ⟨by omega, by omega⟩]; omega
  have wM : IntKind.i64.wrap ((th : Int) - (tl : Int)) = (m : Int) := by rw [IntWalk.i64_in _ ⟨by omega, by omega⟩]; omega
  have wR : IntKind.i64.wrap ((n : Int) + (m : Int) + 4) = (R : Int) := by rw [IntWalk.i64_in _ ⟨by omega, by omega⟩]; omega
  have hn : n ≤ 65536 := by omega
  have hm : m ≤ 65536 := by omega
  have hRb : R ≤ 131076 := by omega
  have HA0 : Hid (∀ i, i < A.length → w.cell? ⟨gA, i, none⟩ = some (.string (lineAt A i))) := hA0
  have HT0 : Hid (∀ i, i < T.length → w.cell? ⟨gT, i, none⟩ = some (.string (lineAt T i))) := hT0
  have HB : Hid (Below w0.heap.size w0 w) := bel
  have HF : Hid (fh = fl + n ∧ th = tl + m ∧ R = n + m + 4) := ⟨hfh, hth, hR⟩
  clear hA0 hT0 bel hfh hth hR
  go_enter Try.func10, Try.ntmps10
  go_wp2_with (refine wpList_make_full _ rfl _ _ 30 rfl 0 3 i3 (.int .i64 0) 1 Try.underlying30 hi3 hy0 hy1 .i64 .i64 (R : Int) (R : Int) R rfl rfl rfl rfl ?c1 ?c2 (Nat.zero_le _) ?_)
  case c1 => rw [hy2]; omega
  case c2 => unfold maxLen; omega
  intro w1 ho1 hg1
  have HO1 : Hid (w1.ownsRow 0 3 1 (.slice (some ⟨w.heap.size, 0, none⟩) R R) R (icells (List.replicate R 0))) := by
    rw [toList_madeCells_one, rep_icells] at ho1
    exact ho1
  have hs1 : w.heap.size < w1.heap.size := (HO1.out.lt _ rfl).2
  have HB1 : Hid (Below w.heap.size w w1) := (Below.refl _ _).grown hg1 (Nat.le_refl _) (fun k hk => by cases hk)
  clear ho1 hg1
  go_wp2_with (refine wpList_make_full _ rfl _ _ 30 rfl 0 3 i3 (.int .i64 0) 1 Try.underlying30 hi3 hy0 hy1 .i64 .i64 (R : Int) (R : Int) R rfl rfl rfl rfl ?c1 ?c2 (Nat.zero_le _) ?_)
  case c1 => rw [hy2]; omega
  case c2 => unfold maxLen; omega
  intro w2 ho2 hg2
  have HO2 : Hid (w2.ownsRow 0 3 1 (.slice (some ⟨w1.heap.size, 0, none⟩) R R) R (icells (List.replicate R 0))) := by
    rw [toList_madeCells_one, rep_icells] at ho2
    exact ho2
  have HB2 : Hid (Below w1.heap.size w1 w2) := (Below.refl _ _).grown hg2 (Nat.le_refl _) (fun k hk => by cases hk)
  clear ho2 hg2
  have hBB : Below w.heap.size w w2 := ⟨HB2.out.os.trans HB1.out.os, HB2.out.tape.trans HB1.out.tape, HB2.out.output.trans HB1.out.output, Nat.le_trans HB1.out.size HB2.out.size, fun k hk => (HB2.out.block k (Nat.lt_of_lt_of_le hk HB1.out.size)).trans (HB1.out.block k hk)⟩
  have hw0 := HB.out.size
  have HC := zzmid_any w0 w2 gA gT w.heap.size w1.heap.size cA cT R R R fl fh tl th n m A T (List.replicate R 0) (List.replicate R 0)
    (fun i hi => (hBB.cell (p := ⟨gA, i, none⟩) lA).trans (HA0.out i hi)) (fun i hi => (hBB.cell (p := ⟨gT, i, none⟩) lT).trans (HT0.out i hi))
    (by
      have h := HO1.out
      refine ⟨h.1, ?_⟩
      rcases h.2 with hn | ⟨g, cap, cur, he, hb, hgg, rest⟩
      · exact .inl hn
      · refine .inr ⟨g, cap, cur, he, hb, ?_, rest⟩
        have eg : g = w.heap.size := by simp at he; exact he.1.symm
        rw [HB2.out.block g (by omega)]
        exact hgg) HO2.out ⟨by omega, by omega, by omega, by omega, by omega⟩
    ⟨hBB.os.trans HB.out.os, hBB.tape.trans HB.out.tape, hBB.output.trans HB.out.output, Nat.le_trans HB.out.size hBB.size, fun k hk => (hBB.block k (by omega)).trans (HB.out.block k hk)⟩ (by omega) (by omega) HF.out.1 HF.out.2.1 hA hT hAL hTL HF.out.2.2
  have HCC : Hid _ := HC
  clear HC hBB HO1 HO2 HB1 HB2
  go_wp2_with fail
  refine Calls.mono HCC.out ?_
  rintro r w3 ⟨x, y, j, rfl, hc, hb⟩
  have HA : Hid (Cuts (eqA A T fl tl n m) (eqB A T fh th n m) n m x y j ∧ Below w0.heap.size w0 w3) := ⟨hc, hb⟩
  clear hc hb HCC
  go_wp2_with fail
  refine bodyPost_ret (results_tmp4 rfl _ _ _) rfl ?_
  exact ⟨x, y, j, rfl, HA.out.1, HA.out.2⟩
end Go.Proofs.Qxb6602567a.Ms
