/- The law's helpers: the copies, the window, the snake's test. -/
import Derived.Test.Qxb6602567aMsAux
namespace Go.Proofs.Qxb6602567a.Ms
open Go Go.RowKit
set_option linter.unusedVariables false

def scells (l : List ByteArray) : List Value := l.map Value.string
theorem info9 : (Try.prog.info? 9).map (fun i => (i.zero, i.size, i.bytes)) = some (some (.string ByteArray.empty), 1, 16) := by kernel_rfl
theorem info3 : (Try.prog.info? 3).map (fun i => (i.zero, i.size, i.bytes)) = some (some (.int .i64 0), 1, 8) := by kernel_rfl
theorem set_fill {α : Type} (A : List α) (z u : α) (m : Nat) : (A ++ List.replicate (m + 1) z).set A.length u = (A ++ [u]) ++ List.replicate m z := by
  rw [List.set_append_right _ _ (Nat.le_refl _)]
  simp [List.replicate_succ]

set_option maxHeartbeats 1000000 in
theorem clone_any (w : World) (a : Option Addr) (n cap : Nat) (l : List ByteArray) (hl : l.length = n) (ha : a = none → n = 0) (hb : n ≤ 2097152)
    (hc : ∀ k (h : k < n), ∃ b off, a = some ⟨b, off, none⟩ ∧ w.cell? ⟨b, off + k, none⟩ = some (.string (lineAt l k))) :
    Calls Try.prog 9 #[.slice a n cap] w fun r w' => (∃ v, r = .returned v ∧ w'.ownsRow 0 9 1 v n (scells l) ∧ ∀ k, v.ownBlock = some k → w.heap.size ≤ k) ∧ Below w.heap.size w w' := by
  obtain ⟨i0, hi, hz0, hz1, hz2⟩ := info_parts info9
  have hnil := fun wx : World => Lib.run_eql_slice_nil (P := Try.prog) wx 22 9 a n cap 0 0 Try.underlying22
  cases a with
  | none =>
    have h0 := ha rfl
    subst h0
    have hl0 : l = [] := List.eq_nil_of_length_eq_zero hl
    subst hl0
    go_enter Try.func9, Try.ntmps9
    go_wp2
    go_ret
    exact ⟨⟨_, rfl, World.ownsRow_nil _ _ _ _, fun k hk => by simp [Value.ownBlock] at hk⟩, Below.refl _ _⟩
  | some x =>
    have hx : 0 < n → ∃ b off, x = ⟨b, off, none⟩ := fun h0 => by
      obtain ⟨b, off, h1, _⟩ := hc 0 h0
      exact ⟨b, off, by simpa using h1⟩
    have hcell : ∀ b off, x = ⟨b, off, none⟩ → ∀ k (h : k < n), w.cell? ⟨b, off + k, none⟩ = some (.string (lineAt l k)) := fun b off e k h => by
      obtain ⟨b', off', h1, h2⟩ := hc k h
      rw [e] at h1
      simp at h1
      obtain ⟨rfl, rfl⟩ := h1
      exact h2
    clear hc ha
    go_enter Try.func9, Try.ntmps9
    go_wp2_with (refine wpList_make_full _ rfl _ _ 22 rfl 0 9 i0 (.string ByteArray.empty) 1 Try.underlying22 hi hz0 hz1 .i64 .i64 (n : Int) (n : Int) n rfl rfl rfl rfl ?c1 ?c2 (Nat.zero_le _) ?_)
    case c1 => rw [hz2]; omega
    case c2 => unfold maxLen; omega
    intro w1 hown hg
    have hown0 : Hid (w1.ownsRow 0 9 1 (.slice (some ⟨w.heap.size, 0, none⟩) n n) n (scells (l.take 0) ++ List.replicate (n - 0) (.string ByteArray.empty))) := by
      rw [toList_madeCells_one] at hown
      have h : w1.ownsRow 0 9 1 (.slice (some ⟨w.heap.size, 0, none⟩) n n) n (scells (l.take 0) ++ List.replicate (n - 0) (.string ByteArray.empty)) := by simpa [scells] using hown
      exact h
    have hbel : Below w.heap.size w w1 := (Below.refl _ _).grown hg (Nat.le_refl _) (fun k hk => by cases hk)
    clear hown hg
    go_wp2
    go_loopw [4] (fun t wr => ∃ k : Nat, k ≤ n ∧ t = .int .i64 k ∧ Hid (wr.ownsRow 0 9 1 (.slice (some ⟨w.heap.size, 0, none⟩) n n) n (scells (l.take k) ++ List.replicate (n - k) (.string ByteArray.empty))) ∧ Below w.heap.size w wr) (fun t _ => n - (intOf t).toNat)
    case atStart => exact ⟨0, Nat.zero_le _, rfl, hown0, hbel⟩
    case round =>
      obtain ⟨k, hk, rfl, ho, hb2⟩ := hrel
      by_cases hlt : k < n
      · obtain ⟨b, off, rfl⟩ := hx (by omega)
        have c1 := hcell b off rfl k hlt
        have hblt := World.block_lt_of_cell? _ _ c1
        have c2 : wr.cell? ⟨b, off + k, none⟩ = some (.string (lineAt l k)) := (hb2.cell (p := ⟨b, off + k, none⟩) hblt).trans c1
        have c3 : ∃ u, wr.cell? ⟨w.heap.size, k, none⟩ = some u := by
          rw [ho.out.cellAt k (by omega)]
          have : k < (scells (l.take k) ++ List.replicate (n - k) (.string ByteArray.empty : Value)).length := by simp [scells]; omega
          exact ⟨_, List.getElem?_eq_getElem this⟩
        obtain ⟨u, c3⟩ := c3
        have f3 := ho.out.frozenAt k
        have hst := ho.out.stored k (.string (lineAt l k))
        have e1 : (scells (l.take k) ++ List.replicate (n - k) (.string ByteArray.empty : Value)).set k (.string (lineAt l k)) = scells (l.take (k + 1)) ++ List.replicate (n - (k + 1)) (.string ByteArray.empty) := by
          have hk1 : (scells (l.take k)).length = k := by simp [scells]; omega
          have hn1 : n - k = (n - (k + 1)) + 1 := by omega
          rw [hn1]
          have := set_fill (scells (l.take k)) (.string ByteArray.empty : Value) (.string (lineAt l k)) (n - (k + 1))
          rw [hk1] at this
          rw [this, List.take_succ_eq_append_getElem (by omega)]
          have e9 : lineAt l k = l[k]'(by omega) := by simp [lineAt, List.getD_eq_getElem?_getD, List.getElem?_eq_getElem (show k < l.length by omega)]
          simp only [scells, List.map_append, List.map_cons, List.map_nil, e9]
        rw [e1] at hst
        have ho' : Hid _ := hst.1
        have hb3 := hb2.setCell (p := ⟨w.heap.size, k, none⟩) (Nat.le_refl _) (.string (lineAt l k))
        have HB3 : Hid _ := hb3
        clear hst e1 c1 hb3 hcell
        go_wp2
        go_roundw
        case rel => exact ⟨k + 1, by omega, by go_num, ho', HB3.out⟩
        case measure => simp [intOf]; omega
      · have hkn : k = n := by omega
        subst hkn
        have ho' := ho.out
        rw [List.take_of_length_le (by omega), Nat.sub_self, List.replicate_zero, List.append_nil] at ho'
        have HO : Hid _ := ho'
        clear ho' ho hcell
        go_wp2
        go_ret
        exact ⟨⟨_, rfl, HO.out, fun k hk => by simp [Value.ownBlock] at hk; omega⟩, hb2⟩

set_option maxHeartbeats 1000000 in
theorem zz12_any (a a2 : Option Addr) (A T : List ByteArray) (c c2 : Nat) (i1 i2 i3 i4 : Int) (w : World) (hA : StrsIn w a A) (hT : StrsIn w a2 T) (hn : A.length ≤ maxLen) (hn2 : T.length ≤ maxLen) (hz : Sized A) (hz2 : Sized T) :
    Calls Try.prog 12 #[.slice a A.length c, .slice a2 T.length c2, .int .i64 i1, .int .i64 i2, .int .i64 i3, .int .i64 i4] w fun r w' => AnyB r ∧ w' = w := by
  unfold maxLen at hn hn2
  have HA : Hid (StrsIn w a A) := hA
  have HT : Hid (StrsIn w a2 T) := hT
  have HZ : Hid (Sized A) := hz
  have HZ2 : Hid (Sized T) := hz2
  clear hA hT hz hz2
  by_cases t1 : (A.length : Int) ≤ 1048576
  · go_enter Try.func12, Try.ntmps12
    go_wp2
    go_loop [13, 14] (fun z i => ∃ (s : Int) (j : Nat), 0 ≤ s ∧ s ≤ 1048576 ∧ z = .int .i64 s ∧ j ≤ A.length ∧ i = .int .i64 (j : Int)) (fun _ i => A.length - (intOf i).toNat)
    case atStart => exact ⟨_, 0, by omega, t1, rfl, Nat.zero_le _, rfl⟩
    case round =>
      obtain ⟨s, j, hs0, hs1, rfl, hj, rfl⟩ := hrel
      by_cases hlt : j < A.length
      · obtain ⟨b, off, rfl, hc⟩ := HA.out j hlt
        have hzj := HZ.out j hlt
        unfold maxLen at hzj
        have hji : (j : Int) < (A.length : Int) := by omega
        by_cases u1 : ((lineAt A j).size : Int) ≤ 1048576
        · by_cases u2 : s + ((lineAt A j).size : Int) ≤ 1048576
          · go_wp2
            go_round
            case rel => exact ⟨_, j + 1, by omega, u2, rfl, by omega, by go_num⟩
            case measure => simp [intOf]; omega
          · go_wp2
            go_ret
            exact ⟨anyB _, rfl⟩
        · go_wp2
          go_ret
          exact ⟨anyB _, rfl⟩
      · by_cases v1 : (T.length : Int) ≤ 1048576
        · by_cases v2 : s + (T.length : Int) ≤ 1048576
          · go_wp2
            go_loop [13, 15] (fun z i => ∃ (s : Int) (j : Nat), 0 ≤ s ∧ s ≤ 1048576 ∧ z = .int .i64 s ∧ j ≤ T.length ∧ i = .int .i64 (j : Int)) (fun _ i => T.length - (intOf i).toNat)
            case atStart => exact ⟨_, 0, by omega, v2, rfl, Nat.zero_le _, rfl⟩
            case round =>
              obtain ⟨s, j, hs0, hs1, rfl, hj, rfl⟩ := hrel
              by_cases hlt : j < T.length
              · obtain ⟨b, off, rfl, hc⟩ := HT.out j hlt
                have hzj := HZ2.out j hlt
                unfold maxLen at hzj
                have hji : (j : Int) < (T.length : Int) := by omega
                by_cases u1 : ((lineAt T j).size : Int) ≤ 1048576
                · by_cases u2 : s + ((lineAt T j).size : Int) ≤ 1048576
                  · go_wp2
                    go_round
                    case rel => exact ⟨_, j + 1, by omega, u2, rfl, by omega, by go_num⟩
                    case measure => simp [intOf]; omega
                  · go_wp2
                    go_ret
                    exact ⟨anyB _, rfl⟩
                · go_wp2
                  go_ret
                  exact ⟨anyB _, rfl⟩
              · go_wp2
                go_ret
                exact ⟨anyB _, rfl⟩
          · go_wp2
            go_ret
            exact ⟨anyB _, rfl⟩
        · go_wp2
          go_ret
          exact ⟨anyB _, rfl⟩
  · go_enter Try.func12, Try.ntmps12
    go_wp2
    go_ret
    exact ⟨anyB _, rfl⟩


/-- what the window's test says where it is true -/
structure Win (A T : List ByteArray) (i1 i2 i3 i4 : Int) : Prop where
  a0 : 0 ≤ i1
  a1 : i1 < i2
  a2 : i2 ≤ A.length
  b0 : 0 ≤ i3
  b1 : i3 < i4
  b2 : i4 ≤ T.length
  first : lineAt A i1.toNat ≠ lineAt T i3.toNat
  last : lineAt A (i2.toNat - 1) ≠ lineAt T (i4.toNat - 1)
def WinB (r : Ending) (p : Prop) : Prop := ∃ b : Bool, r = .returned (.bool b) ∧ (b = true → p)
theorem winb_no {p : Prop} : WinB (.returned (.bool false)) p := ⟨false, rfl, fun h => by cases h⟩
theorem winb_yes {p : Prop} (h : p) : WinB (.returned (.bool true)) p := ⟨true, rfl, fun _ => h⟩

set_option maxHeartbeats 1000000 in
theorem window_any (a a2 : Option Addr) (A T : List ByteArray) (c c2 : Nat) (i1 i2 i3 i4 : Int) (w : World) (hA : StrsIn w a A) (hT : StrsIn w a2 T) (hn : A.length ≤ 65536) (hn2 : T.length ≤ 65536) :
    Calls Try.prog 7 #[.slice a A.length c, .slice a2 T.length c2, .int .i64 i1, .int .i64 i2, .int .i64 i3, .int .i64 i4] w fun r w' => WinB r (Win A T i1 i2 i3 i4) ∧ ∃ n, w' = w.drewN n := by
  have HA : Hid (StrsIn w a A) := hA
  have HT : Hid (StrsIn w a2 T) := hT
  clear hA hT
  by_cases t1 : i1 < 0
  · have b1 : decide (i1 < 0) = true := by simpa using t1
    go_enter Try.func7, Try.ntmps7
    go_wp2
    go_ret
    exact ⟨winb_no, 0, rfl⟩
  have b1 : decide (i1 < 0) = false := by simpa using t1
  by_cases t2 : i2 ≤ i1
  · have b2 : decide (i2 ≤ i1) = true := by simpa using t2
    go_enter Try.func7, Try.ntmps7
    go_wp2
    go_ret
    exact ⟨winb_no, 0, rfl⟩
  have b2 : decide (i2 ≤ i1) = false := by simpa using t2
  by_cases t3 : (A.length : Int) < i2
  · have b3 : decide ((A.length : Int) < i2) = true := by simpa using t3
    go_enter Try.func7, Try.ntmps7
    go_wp2
    go_ret
    exact ⟨winb_no, 0, rfl⟩
  have b3 : decide ((A.length : Int) < i2) = false := by simpa using t3
  by_cases t4 : i3 < 0
  · have b4 : decide (i3 < 0) = true := by simpa using t4
    go_enter Try.func7, Try.ntmps7
    go_wp2
    go_ret
    exact ⟨winb_no, 0, rfl⟩
  have b4 : decide (i3 < 0) = false := by simpa using t4
  by_cases t5 : i4 ≤ i3
  · have b5 : decide (i4 ≤ i3) = true := by simpa using t5
    go_enter Try.func7, Try.ntmps7
    go_wp2
    go_ret
    exact ⟨winb_no, 0, rfl⟩
  have b5 : decide (i4 ≤ i3) = false := by simpa using t5
  by_cases t6 : (T.length : Int) < i4
  · have b6 : decide ((T.length : Int) < i4) = true := by simpa using t6
    go_enter Try.func7, Try.ntmps7
    go_wp2
    go_ret
    exact ⟨winb_no, 0, rfl⟩
  have b6 : decide ((T.length : Int) < i4) = false := by simpa using t6
  obtain ⟨fl, hfl⟩ := Int.eq_ofNat_of_zero_le (show 0 ≤ i1 by omega)
  obtain ⟨fh, hfh⟩ := Int.eq_ofNat_of_zero_le (show 0 ≤ i2 by omega)
  obtain ⟨tl, htl⟩ := Int.eq_ofNat_of_zero_le (show 0 ≤ i3 by omega)
  obtain ⟨th, hth⟩ := Int.eq_ofNat_of_zero_le (show 0 ≤ i4 by omega)
  subst hfl hfh htl hth
  have c2' : decide (fh ≤ fl) = false := by simp; omega
  have c5' : decide (th ≤ tl) = false := by simp; omega
  have c3' : decide (A.length < fh) = false := by simp; omega
  have c6' : decide (T.length < th) = false := by simp; omega
  obtain ⟨f1, hf1⟩ : ∃ f1, f1 + 1 = fh := ⟨fh - 1, by omega⟩
  obtain ⟨t1', ht1⟩ : ∃ t1', t1' + 1 = th := ⟨th - 1, by omega⟩
  have w1 : IntKind.i64.wrap ((fh : Int) - 1) = (f1 : Int) := by rw [IntWalk.i64_in _ ⟨by omega, by omega⟩]; omega
  have w2 : IntKind.i64.wrap ((th : Int) - 1) = (t1' : Int) := by rw [IntWalk.i64_in _ ⟨by omega, by omega⟩]; omega
  have q1 : (fl : Int) < (A.length : Int) := by omega
  have q2 : (tl : Int) < (T.length : Int) := by omega
  have q3 : (f1 : Int) < (A.length : Int) := by omega
  have q4 : (t1' : Int) < (T.length : Int) := by omega
  have q5 : (0 : Int) ≤ (f1 : Int) := by omega
  have q6 : (0 : Int) ≤ (t1' : Int) := by omega
  obtain ⟨bA, oA, rfl, x1⟩ := HA.out fl (by omega)
  obtain ⟨bA', oA', e1, x2⟩ := HA.out f1 (by omega)
  obtain ⟨bT, oT, rfl, y1⟩ := HT.out tl (by omega)
  obtain ⟨bT', oT', e2, y2⟩ := HT.out t1' (by omega)
  simp at e1 e2
  obtain ⟨rfl, rfl⟩ := e1
  obtain ⟨rfl, rfl⟩ := e2
  have HR : Hid (f1 + 1 = fh ∧ t1' + 1 = th ∧ fl < fh ∧ tl < th ∧ fh ≤ A.length ∧ th ≤ T.length) := ⟨hf1, ht1, by omega, by omega, by omega, by omega⟩
  clear hf1 ht1
  by_cases u1 : lineAt A fl = lineAt T tl
  · have v1 : ((lineAt A fl).toList != (lineAt T tl).toList) = false := by rw [u1]; simp
    have v2 : ((lineAt A fl).toList == (lineAt T tl).toList) = true := by rw [u1]; simp
    clear u1
    go_enter Try.func7, Try.ntmps7
    go_wp2_with fail
    refine wp_region_quiet_lit (by kernel_rfl) (by kernel_rfl) ?_
    repeat (with_reducible refine wpQuiet_step (fun K hK => ?_); go_simp; with_reducible refine hK _ ?_; clear hK K)
    with_reducible refine wpQuiet_nil ?_
    intro _ hw1
    obtain ⟨nq, hw2⟩ := hw1
    subst hw2
    go_wp2
    go_ret
    exact ⟨winb_no, _, rfl⟩
  · have v2 : ((lineAt A fl).toList == (lineAt T tl).toList) = false := (Go.Lib.bytes_beq_false_iff _ _).2 u1
    have v1 : ((lineAt A fl).toList != (lineAt T tl).toList) = true := by simp [bne, v2]
    by_cases u2 : lineAt A f1 = lineAt T t1'
    · have v3 : ((lineAt A f1).toList != (lineAt T t1').toList) = false := by rw [u2]; simp
      have v4 : ((lineAt A f1).toList == (lineAt T t1').toList) = true := by rw [u2]; simp
      clear u1 u2
      go_enter Try.func7, Try.ntmps7
      go_wp2_with fail
      refine wp_region_quiet_lit (by kernel_rfl) (by kernel_rfl) ?_
      repeat (with_reducible refine wpQuiet_step (fun K hK => ?_); go_simp; with_reducible refine hK _ ?_; clear hK K)
      with_reducible refine wpQuiet_nil ?_
      intro _ hw1
      obtain ⟨nq, hw2⟩ := hw1
      subst hw2
      go_wp2
      go_ret
      exact ⟨winb_no, _, rfl⟩
    · have v4 : ((lineAt A f1).toList == (lineAt T t1').toList) = false := (Go.Lib.bytes_beq_false_iff _ _).2 u2
      have v3 : ((lineAt A f1).toList != (lineAt T t1').toList) = true := by simp [bne, v4]
      have HW : Hid (Win A T (fl : Int) (fh : Int) (tl : Int) (th : Int)) := by
        obtain ⟨r1, r2, r3, r4, r5, r6⟩ := HR.out
        refine ⟨by omega, by omega, by omega, by omega, by omega, by omega, by simpa using u1, ?_⟩
        have e1 : ((fh : Int).toNat - 1) = f1 := by omega
        have e2 : ((th : Int).toNat - 1) = t1' := by omega
        rw [e1, e2]; exact u2
      clear u1 u2
      go_enter Try.func7, Try.ntmps7
      go_wp2_with fail
      refine wp_region_quiet_lit (by kernel_rfl) (by kernel_rfl) ?_
      repeat (with_reducible refine wpQuiet_step (fun K hK => ?_); go_simp; with_reducible refine hK _ ?_; clear hK K)
      with_reducible refine wpQuiet_nil ?_
      intro _ hw1
      obtain ⟨nq, hw2⟩ := hw1
      subst hw2
      go_wp2
      go_ret
      exact ⟨winb_yes HW.out, _, rfl⟩

set_option maxHeartbeats 1000000 in
theorem within_any (a a2 : Option Addr) (A T : List ByteArray) (c c2 : Nat) (fl fh tl th x y u v j : Nat) (w : World) (hA : StrsIn w a A) (hT : StrsIn w a2 T) (hn : A.length ≤ 65536) (hn2 : T.length ≤ 65536)
    (hx : fl ≤ x) (hy : tl ≤ y) (hu : u = x + j) (hv : v = y + j) (hfh : u ≤ fh) (hth : v ≤ th) (hA2 : fh ≤ A.length) (hT2 : th ≤ T.length) (heq : ∀ i, i < j → lineAt A (x + i) = lineAt T (y + i)) :
    Calls Try.prog 11 #[.slice a A.length c, .slice a2 T.length c2, .int .i64 (fl : Int), .int .i64 (fh : Int), .int .i64 (tl : Int), .int .i64 (th : Int), .int .i64 (x : Int), .int .i64 (y : Int), .int .i64 (u : Int), .int .i64 (v : Int)] w fun r w' => r = .returned (.bool true) ∧ ∃ n, w' = w.drewN n := by
  have HA : Hid (StrsIn w a A) := hA
  have HT : Hid (StrsIn w a2 T) := hT
  have HE : Hid (∀ i, i < j → lineAt A (x + i) = lineAt T (y + i)) := heq
  have b1 : decide (x < fl) = false := by simp; omega
  have b2 : decide (u < x) = false := by simp; omega
  have b3 : decide (fh < u) = false := by simp; omega
  have b4 : decide (y < tl) = false := by simp; omega
  have b5 : decide (v < y) = false := by simp; omega
  have b6 : decide (th < v) = false := by simp; omega
  have w1 : IntKind.i64.wrap ((u : Int) - (x : Int)) = (j : Int) := by rw [IntWalk.i64_in _ ⟨by omega, by omega⟩]; omega
  have w2 : IntKind.i64.wrap ((v : Int) - (y : Int)) = (j : Int) := by rw [IntWalk.i64_in _ ⟨by omega, by omega⟩]; omega
  have hxj : x + j ≤ A.length := by omega
  have hyj : y + j ≤ T.length := by omega
  clear hA hT heq hu hv
  go_enter Try.func11, Try.ntmps11
  go_wp2_with fail
  go_loopw [21] (fun v21 wr => ∃ i : Nat, i ≤ j ∧ v21 = .int .i64 (i : Int) ∧ ∃ k, wr = w.drewN k) (fun v21 _ => j - (intOf v21).toNat)
  case atStart => exact ⟨0, Nat.zero_le _, rfl, 0, rfl⟩
  case round =>
    obtain ⟨i, hi, rfl, kk, rfl⟩ := hrel
    by_cases hij : i < j
    · obtain ⟨bA, oA, rfl, x1⟩ := HA.out (x + i) (by omega)
      obtain ⟨bT, oT, rfl, y1⟩ := HT.out (y + i) (by omega)
      obtain ⟨p, hp⟩ : ∃ p, p = x + i := ⟨_, rfl⟩
      obtain ⟨q, hq⟩ : ∃ q, q = y + i := ⟨_, rfl⟩
      rw [← hp] at x1
      rw [← hq] at y1
      have w3 : IntKind.i64.wrap ((x : Int) + (i : Int)) = (p : Int) := by rw [IntWalk.i64_in _ ⟨by omega, by omega⟩]; omega
      have w4 : IntKind.i64.wrap ((y : Int) + (i : Int)) = (q : Int) := by rw [IntWalk.i64_in _ ⟨by omega, by omega⟩]; omega
      have g1 : (p : Int) < (A.length : Int) := by omega
      have g2 : (q : Int) < (T.length : Int) := by omega
      have g3 : (0 : Int) ≤ (p : Int) := by omega
      have g4 : (0 : Int) ≤ (q : Int) := by omega
      have ee := HE.out i hij
      rw [← hp, ← hq] at ee
      have v1 : ((lineAt A p).toList != (lineAt T q).toList) = false := by rw [ee]; simp
      have v2 : ((lineAt A p).toList == (lineAt T q).toList) = true := by rw [ee]; simp
      clear hp hq ee
      go_wp2_with fail
      refine wp_region_quiet_lit (by kernel_rfl) (by kernel_rfl) ?_
      repeat (with_reducible refine wpQuiet_step (fun K hK => ?_); go_simp; with_reducible refine hK _ ?_; clear hK K)
      with_reducible refine wpQuiet_nil ?_
      intro _ hw1
      obtain ⟨nq, hw2⟩ := hw1
      subst hw2
      go_wp2
      go_roundw
      case rel => exact ⟨i + 1, by omega, by go_num, kk + nq, by simp⟩
      case measure => simp [intOf]; omega
    · go_wp2
      go_ret
      exact ⟨rfl, _, rfl⟩
end Go.Proofs.Qxb6602567a.Ms
