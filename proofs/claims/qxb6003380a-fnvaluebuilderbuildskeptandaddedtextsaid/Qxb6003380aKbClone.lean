/- zzl1CopyStrings, zzl1CopyInts. -/
import Derived.Test.Qxb6003380aScObj
import Derived.Test.Qxb6003380aScClone
import Derived.WalkSpells
namespace Go.Proofs.Qxb6003380a.Kb
open Go Go.RowKit Vb Sc
set_option linter.unusedVariables false

def scells (l : List ByteArray) : List Value := l.map Value.string
theorem info9 : (Try.prog.info? 9).map (fun i => (i.zero, i.size, i.bytes)) = some (some (.string ByteArray.empty), 1, 16) := by kernel_rfl
theorem info3 : (Try.prog.info? 3).map (fun i => (i.zero, i.size, i.bytes)) = some (some (.int .i64 0), 1, 8) := by kernel_rfl

set_option maxHeartbeats 1000000 in
theorem strs_any (w : World) (a : Option Addr) (n cap : Nat) (l : List ByteArray) (hl : l.length = n) (ha : a = none → n = 0) (hb : n ≤ 2097152)
    (hc : ∀ k (h : k < n), ∃ b off, a = some ⟨b, off, none⟩ ∧ w.cell? ⟨b, off + k, none⟩ = some (.string (l[k]'(by omega)))) :
    Calls Try.prog 14 #[.slice a n cap] w fun r w' => (∃ v, r = .returned v ∧ w'.ownsRow 0 9 1 v n (scells l) ∧ ∀ k, v.ownBlock = some k → w.heap.size ≤ k) ∧ Below w.heap.size w w' := by
  obtain ⟨i0, hi, hz0, hz1, hz2⟩ := info_parts info9
  have hnil := fun wx : World => Lib.run_eql_slice_nil (P := Try.prog) wx 26 9 a n cap 0 0 Try.underlying26
  cases a with
  | none =>
    have h0 := ha rfl
    subst h0
    have hl0 : l = [] := List.eq_nil_of_length_eq_zero hl
    subst hl0
    go_enter Try.func14, Try.ntmps14
    go_wp2
    go_ret
    exact ⟨⟨_, rfl, World.ownsRow_nil _ _ _ _, fun k hk => by simp [Value.ownBlock] at hk⟩, Below.refl _ _⟩
  | some x =>
    have hx : 0 < n → ∃ b off, x = ⟨b, off, none⟩ := fun h0 => by
      obtain ⟨b, off, h1, _⟩ := hc 0 h0
      exact ⟨b, off, by simpa using h1⟩
    have hcell : ∀ b off, x = ⟨b, off, none⟩ → ∀ k (h : k < n), w.cell? ⟨b, off + k, none⟩ = some (.string (l[k]'(by omega))) := fun b off e k h => by
      obtain ⟨b', off', h1, h2⟩ := hc k h
      rw [e] at h1
      simp at h1
      obtain ⟨rfl, rfl⟩ := h1
      exact h2
    clear hc ha
    go_enter Try.func14, Try.ntmps14
    go_wp2_with (refine wpList_make_full _ rfl _ _ 26 rfl 0 9 i0 (.string ByteArray.empty) 1 Try.underlying26 hi hz0 hz1 .i64 .i64 (n : Int) (n : Int) n rfl rfl rfl rfl ?c1 ?c2 (Nat.zero_le _) ?_)
    case c1 => rw [hz2]; omega
    case c2 => unfold maxLen; omega
    intro w1 hown hg
    have hown0 : Hid (w1.ownsRow 0 9 1 (.slice (some ⟨w.heap.size, 0, none⟩) n n) n (scells (l.take 0) ++ List.replicate (n - 0) (.string ByteArray.empty))) := by
      rw [toList_madeCells_one] at hown
      have h : w1.ownsRow 0 9 1 (.slice (some ⟨w.heap.size, 0, none⟩) n n) n (scells (l.take 0) ++ List.replicate (n - 0) (.string ByteArray.empty)) := by simpa [scells] using hown
      exact h
    have hbel : Below w.heap.size w w1 := (Below.refl _ _).grown hg (Nat.le_refl _) (fun k hk => by cases hk)
    clear hown hg
    go_wp2
    go_loopw [4] (fun t wr => ∃ k : Nat, k ≤ n ∧ t = .int .i64 k ∧ Hid (wr.ownsRow 0 9 1 (.slice (some ⟨w.heap.size, 0, none⟩) n n) n (scells (l.take k) ++ List.replicate (n - k) (.string ByteArray.empty))) ∧ Below w.heap.size w wr) (fun t _ => n - (intOf t).toNat)
    case atStart => exact ⟨0, Nat.zero_le _, rfl, hown0, hbel⟩
    case round =>
      obtain ⟨k, hk, rfl, ho, hb2⟩ := hrel
      by_cases hlt : k < n
      · obtain ⟨b, off, rfl⟩ := hx (by omega)
        have c1 := hcell b off rfl k hlt
        have hblt := World.block_lt_of_cell? _ _ c1
        have c2 : wr.cell? ⟨b, off + k, none⟩ = some (.string (l[k]'(by omega))) := (hb2.cell (p := ⟨b, off + k, none⟩) hblt).trans c1
        have c3 : ∃ u, wr.cell? ⟨w.heap.size, k, none⟩ = some u := by
          rw [ho.out.cellAt k (by omega)]
          have : k < (scells (l.take k) ++ List.replicate (n - k) (.string ByteArray.empty : Value)).length := by simp [scells]; omega
          exact ⟨_, List.getElem?_eq_getElem this⟩
        obtain ⟨u, c3⟩ := c3
        have f3 := ho.out.frozenAt k
        have hst := ho.out.stored k (.string (l[k]'(by omega)))
        have e1 : (scells (l.take k) ++ List.replicate (n - k) (.string ByteArray.empty : Value)).set k (.string (l[k]'(by omega))) = scells (l.take (k + 1)) ++ List.replicate (n - (k + 1)) (.string ByteArray.empty) := by
          have hk1 : (scells (l.take k)).length = k := by simp [scells]; omega
          have hn1 : n - k = (n - (k + 1)) + 1 := by omega
          rw [hn1]
          have := set_fill (scells (l.take k)) (.string ByteArray.empty : Value) (.string (l[k]'(by omega))) (n - (k + 1))
          rw [hk1] at this
          rw [this, List.take_succ_eq_append_getElem (by omega)]
          simp only [scells, List.map_append, List.map_cons, List.map_nil]
        rw [e1] at hst
        have ho' : Hid _ := hst.1
        have hb3 := hb2.setCell (p := ⟨w.heap.size, k, none⟩) (Nat.le_refl _) (.string (l[k]'(by omega)))
        have HB3 : Hid _ := hb3
        clear hst e1 c1 hb3 hcell
        go_wp2
        go_roundw
        case rel => exact ⟨k + 1, by omega, by go_num, ho', HB3.out⟩
        case measure => simp [intOf]; omega
      · have hkn : k = n := by omega
        subst hkn
        have ho' := ho.out
        rw [List.take_of_length_le (by omega), Nat.sub_self, List.replicate_zero, List.append_nil] at ho'
        have HO : Hid _ := ho'
        clear ho' ho hcell
        go_wp2
        go_ret
        exact ⟨⟨_, rfl, HO.out, fun k hk => by simp [Value.ownBlock] at hk; omega⟩, hb2⟩

set_option maxHeartbeats 1000000 in
theorem ints_any (w : World) (a : Option Addr) (n cap : Nat) (l : List Int) (hl : l.length = n) (ha : a = none → n = 0) (hb : n ≤ 2097152)
    (hc : ∀ k (h : k < n), ∃ b off, a = some ⟨b, off, none⟩ ∧ w.cell? ⟨b, off + k, none⟩ = some (.int .i64 (l[k]'(by omega)))) :
    Calls Try.prog 15 #[.slice a n cap] w fun r w' => (∃ v, r = .returned v ∧ w'.ownsRow 0 3 1 v n (icells l) ∧ ∀ k, v.ownBlock = some k → w.heap.size ≤ k) ∧ Below w.heap.size w w' := by
  obtain ⟨i0, hi, hz0, hz1, hz2⟩ := info_parts info3
  have hnil := fun wx : World => Lib.run_eql_slice_nil (P := Try.prog) wx 27 3 a n cap 0 0 Try.underlying27
  cases a with
  | none =>
    have h0 := ha rfl
    subst h0
    have hl0 : l = [] := List.eq_nil_of_length_eq_zero hl
    subst hl0
    go_enter Try.func15, Try.ntmps15
    go_wp2
    go_ret
    exact ⟨⟨_, rfl, World.ownsRow_nil _ _ _ _, fun k hk => by simp [Value.ownBlock] at hk⟩, Below.refl _ _⟩
  | some x =>
    have hx : 0 < n → ∃ b off, x = ⟨b, off, none⟩ := fun h0 => by
      obtain ⟨b, off, h1, _⟩ := hc 0 h0
      exact ⟨b, off, by simpa using h1⟩
    have hcell : ∀ b off, x = ⟨b, off, none⟩ → ∀ k (h : k < n), w.cell? ⟨b, off + k, none⟩ = some (.int .i64 (l[k]'(by omega))) := fun b off e k h => by
      obtain ⟨b', off', h1, h2⟩ := hc k h
      rw [e] at h1
      simp at h1
      obtain ⟨rfl, rfl⟩ := h1
      exact h2
    clear hc ha
    go_enter Try.func15, Try.ntmps15
    go_wp2_with (refine wpList_make_full _ rfl _ _ 27 rfl 0 3 i0 (.int .i64 0) 1 Try.underlying27 hi hz0 hz1 .i64 .i64 (n : Int) (n : Int) n rfl rfl rfl rfl ?c1 ?c2 (Nat.zero_le _) ?_)
    case c1 => rw [hz2]; omega
    case c2 => unfold maxLen; omega
    intro w1 hown hg
    have hown0 : Hid (w1.ownsRow 0 3 1 (.slice (some ⟨w.heap.size, 0, none⟩) n n) n (icells (l.take 0) ++ List.replicate (n - 0) (.int .i64 0))) := by
      rw [toList_madeCells_one] at hown
      have h : w1.ownsRow 0 3 1 (.slice (some ⟨w.heap.size, 0, none⟩) n n) n (icells (l.take 0) ++ List.replicate (n - 0) (.int .i64 0)) := by simpa [icells] using hown
      exact h
    have hbel : Below w.heap.size w w1 := (Below.refl _ _).grown hg (Nat.le_refl _) (fun k hk => by cases hk)
    clear hown hg
    go_wp2
    go_loopw [4] (fun t wr => ∃ k : Nat, k ≤ n ∧ t = .int .i64 k ∧ Hid (wr.ownsRow 0 3 1 (.slice (some ⟨w.heap.size, 0, none⟩) n n) n (icells (l.take k) ++ List.replicate (n - k) (.int .i64 0))) ∧ Below w.heap.size w wr) (fun t _ => n - (intOf t).toNat)
    case atStart => exact ⟨0, Nat.zero_le _, rfl, hown0, hbel⟩
    case round =>
      obtain ⟨k, hk, rfl, ho, hb2⟩ := hrel
      by_cases hlt : k < n
      · obtain ⟨b, off, rfl⟩ := hx (by omega)
        have c1 := hcell b off rfl k hlt
        have hblt := World.block_lt_of_cell? _ _ c1
        have c2 : wr.cell? ⟨b, off + k, none⟩ = some (.int .i64 (l[k]'(by omega))) := (hb2.cell (p := ⟨b, off + k, none⟩) hblt).trans c1
        have c3 : ∃ u, wr.cell? ⟨w.heap.size, k, none⟩ = some u := by
          rw [ho.out.cellAt k (by omega)]
          have : k < (icells (l.take k) ++ List.replicate (n - k) (.int .i64 0 : Value)).length := by simp [icells]; omega
          exact ⟨_, List.getElem?_eq_getElem this⟩
        obtain ⟨u, c3⟩ := c3
        have f3 := ho.out.frozenAt k
        have hst := ho.out.stored k (.int .i64 (l[k]'(by omega)))
        have e1 : (icells (l.take k) ++ List.replicate (n - k) (.int .i64 0 : Value)).set k (.int .i64 (l[k]'(by omega))) = icells (l.take (k + 1)) ++ List.replicate (n - (k + 1)) (.int .i64 0) := by
          have hk1 : (icells (l.take k)).length = k := by simp [icells]; omega
          have hn1 : n - k = (n - (k + 1)) + 1 := by omega
          rw [hn1]
          have := set_fill (icells (l.take k)) (.int .i64 0 : Value) (.int .i64 (l[k]'(by omega))) (n - (k + 1))
          rw [hk1] at this
          rw [this, List.take_succ_eq_append_getElem (by omega)]
          simp only [icells, List.map_append, List.map_cons, List.map_nil]
        rw [e1] at hst
        have ho' : Hid _ := hst.1
        have hb3 := hb2.setCell (p := ⟨w.heap.size, k, none⟩) (Nat.le_refl _) (.int .i64 (l[k]'(by omega)))
        have HB3 : Hid _ := hb3
        clear hst e1 c1 hb3 hcell
        go_wp2
        go_roundw
        case rel => exact ⟨k + 1, by omega, by go_num, ho', HB3.out⟩
        case measure => simp [intOf]; omega
      · have hkn : k = n := by omega
        subst hkn
        have ho' := ho.out
        rw [List.take_of_length_le (by omega), Nat.sub_self, List.replicate_zero, List.append_nil] at ho'
        have HO : Hid _ := ho'
        clear ho' ho hcell
        go_wp2
        go_ret
        exact ⟨⟨_, rfl, HO.out, fun k hk => by simp [Value.ownBlock] at hk; omega⟩, hb2⟩
end Go.Proofs.Qxb6003380a.Kb
