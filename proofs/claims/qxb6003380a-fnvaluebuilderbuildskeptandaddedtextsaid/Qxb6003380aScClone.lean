/- zzCloneBytes. -/
import Derived.Test.Qxb6003380aVbWalks
import Derived.WalkSpells
namespace Go.Proofs.Qxb6003380a.Sc
open Go Go.RowKit Vb
set_option linter.unusedVariables false
theorem set_fill {α : Type} (A : List α) (z u : α) (m : Nat) : (A ++ List.replicate (m + 1) z).set A.length u = (A ++ [u]) ++ List.replicate m z := by
  rw [List.set_append_right _ _ (Nat.le_refl _)]
  simp [List.replicate_succ]

set_option maxHeartbeats 1000000 in
theorem clone_any (w : World) (a : Option Addr) (n cap : Nat) (l : List UInt8) (hl : l.length = n) (ha : a = none → n = 0) (hb : n ≤ 2097152)
    (hc : ∀ k (h : k < n), ∃ b off, a = some ⟨b, off, none⟩ ∧ w.cell? ⟨b, off + k, none⟩ = some (.int .u8 ((l[k]'(by omega)).toNat : Int))) :
    Calls Try.prog 34 #[.slice a n cap] w fun r w' => (∃ v, r = .returned v ∧ w'.ownsRow 0 5 1 v n (bcells l) ∧ ∀ k, v.ownBlock = some k → w.heap.size ≤ k) ∧ Below w.heap.size w w' := by
  obtain ⟨i0, hi, hz0, hz1, hz2⟩ := info_parts info5
  have hnil := fun wx : World => Lib.run_eql_slice_nil (P := Try.prog) wx 31 5 a n cap 0 0 Try.underlying31
  cases a with
  | none =>
    have h0 := ha rfl
    subst h0
    have hl0 : l = [] := List.eq_nil_of_length_eq_zero hl
    subst hl0
    go_enter Try.func34, Try.ntmps34
    go_wp2
    go_ret
    exact ⟨⟨_, rfl, World.ownsRow_nil _ _ _ _, fun k hk => by simp [Value.ownBlock] at hk⟩, Below.refl _ _⟩
  | some x =>
    have hx : 0 < n → ∃ b off, x = ⟨b, off, none⟩ := fun h0 => by
      obtain ⟨b, off, h1, _⟩ := hc 0 h0
      exact ⟨b, off, by simpa using h1⟩
    have hcell : ∀ b off, x = ⟨b, off, none⟩ → ∀ k (h : k < n), w.cell? ⟨b, off + k, none⟩ = some (.int .u8 ((l[k]'(by omega)).toNat : Int)) := fun b off e k h => by
      obtain ⟨b', off', h1, h2⟩ := hc k h
      rw [e] at h1
      simp at h1
      obtain ⟨rfl, rfl⟩ := h1
      exact h2
    clear hc ha
    go_enter Try.func34, Try.ntmps34
    go_wp2_with (refine wpList_make_full _ rfl _ _ 31 rfl 0 5 i0 (.int .u8 0) 1 Try.underlying31 hi hz0 hz1 .i64 .i64 (n : Int) (n : Int) n rfl rfl rfl rfl ?c1 ?c2 (Nat.zero_le _) ?_)
    case c1 => rw [hz2]; omega
    case c2 => unfold maxLen; omega
    intro w1 hown hg
    have hown0 : Hid (w1.ownsRow 0 5 1 (.slice (some ⟨w.heap.size, 0, none⟩) n n) n (bcells (l.take 0) ++ List.replicate (n - 0) (.int .u8 0))) := by
      rw [toList_madeCells_one] at hown
      have h : w1.ownsRow 0 5 1 (.slice (some ⟨w.heap.size, 0, none⟩) n n) n (bcells (l.take 0) ++ List.replicate (n - 0) (.int .u8 0)) := by simpa [bcells] using hown
      exact h
    have hbel : Below w.heap.size w w1 := (Below.refl _ _).grown hg (Nat.le_refl _) (fun k hk => by cases hk)
    clear hown hg
    go_wp2
    go_loopw [4] (fun t wr => ∃ k : Nat, k ≤ n ∧ t = .int .i64 k ∧ Hid (wr.ownsRow 0 5 1 (.slice (some ⟨w.heap.size, 0, none⟩) n n) n (bcells (l.take k) ++ List.replicate (n - k) (.int .u8 0))) ∧ Below w.heap.size w wr) (fun t _ => n - (intOf t).toNat)
    case atStart => exact ⟨0, Nat.zero_le _, rfl, hown0, hbel⟩
    case round =>
      obtain ⟨k, hk, rfl, ho, hb2⟩ := hrel
      by_cases hlt : k < n
      · obtain ⟨b, off, rfl⟩ := hx (by omega)
        have c1 := hcell b off rfl k hlt
        have hblt := World.block_lt_of_cell? _ _ c1
        have c2 : wr.cell? ⟨b, off + k, none⟩ = some (.int .u8 ((l[k]'(by omega)).toNat : Int)) := (hb2.cell (p := ⟨b, off + k, none⟩) hblt).trans c1
        have c3 : ∃ u, wr.cell? ⟨w.heap.size, k, none⟩ = some u := by
          rw [ho.out.cellAt k (by omega)]
          have : k < (bcells (l.take k) ++ List.replicate (n - k) (Value.int .u8 0)).length := by simp [bcells_length]; omega
          exact ⟨_, List.getElem?_eq_getElem this⟩
        obtain ⟨u, c3⟩ := c3
        have f3 := ho.out.frozenAt k
        have hst := ho.out.stored k (.int .u8 ((l[k]'(by omega)).toNat : Int))
        have e1 : (bcells (l.take k) ++ List.replicate (n - k) (Value.int .u8 0)).set k (.int .u8 ((l[k]'(by omega)).toNat : Int)) = bcells (l.take (k + 1)) ++ List.replicate (n - (k + 1)) (.int .u8 0) := by
          have hk1 : (bcells (l.take k)).length = k := by rw [bcells_length, List.length_take]; omega
          have hn1 : n - k = (n - (k + 1)) + 1 := by omega
          rw [hn1]
          have := set_fill (bcells (l.take k)) (Value.int .u8 0) (.int .u8 ((l[k]'(by omega)).toNat : Int)) (n - (k + 1))
          rw [hk1] at this
          rw [this, List.take_succ_eq_append_getElem (by omega), bcells_append]
          rfl
        rw [e1] at hst
        have ho' : Hid _ := hst.1
        have hb3 := hb2.setCell (p := ⟨w.heap.size, k, none⟩) (Nat.le_refl _) (.int .u8 ((l[k]'(by omega)).toNat : Int))
        have HB3 : Hid _ := hb3
        clear hst e1 c1 hb3 hcell
        go_wp2
        go_roundw
        case rel => exact ⟨k + 1, by omega, by go_num, ho', HB3.out⟩
        case measure => simp [intOf]; omega
      · have hkn : k = n := by omega
        subst hkn
        have ho' := ho.out
        rw [List.take_of_length_le (by omega), Nat.sub_self, List.replicate_zero, List.append_nil] at ho'
        have HO : Hid _ := ho'
        clear ho' ho hcell
        go_wp2
        go_ret
        exact ⟨⟨_, rfl, HO.out, fun k hk => by simp [Value.ownBlock] at hk; omega⟩, hb2⟩
end Go.Proofs.Qxb6003380a.Sc
