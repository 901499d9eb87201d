/- The law's helpers: lengths, the window, the copies, the snake's test. -/
import Derived.Test.Qxb6602567aMsInv
import Derived.Lib.SlicesS
import Derived.Outline
namespace Go.Proofs.Qxb6602567a.Ms
open Go Go.RowKit
set_option linter.unusedVariables false

/-- a slice of strings, its cells anywhere -/
def StrsIn (w : World) (a : Option Addr) (l : List ByteArray) : Prop := ∀ j, j < l.length → ∃ b off, a = some ⟨b, off, none⟩ ∧ w.cell? ⟨b, off + j, none⟩ = some (.string (lineAt l j))
def Sized (l : List ByteArray) : Prop := ∀ j, j < l.length → (lineAt l j).size ≤ maxLen
theorem StrsIn.later {w wx : World} {a : Option Addr} {l : List ByteArray} (h : StrsIn w a l) (hb : Below w.heap.size w wx) : StrsIn wx a l := fun j hj => by
  obtain ⟨b, off, e, hc⟩ := h j hj
  exact ⟨b, off, e, (hb.cell (World.block_lt_of_cell? _ _ hc)).trans hc⟩
theorem StrsIn.drewN {w : World} {a : Option Addr} {l : List ByteArray} (h : StrsIn w a l) (n : Nat) : StrsIn (w.drewN n) a l := h
def AnyB (r : Ending) : Prop := ∃ b : Bool, r = .returned (.bool b)
theorem anyB (b : Bool) : AnyB (.returned (.bool b)) := ⟨b, rfl⟩

set_option maxHeartbeats 1000000 in
theorem zz5_any (a a2 : Option Addr) (A T : List ByteArray) (c c2 : Nat) (i1 i2 i3 i4 : Int) (w : World) (hA : StrsIn w a A) (hT : StrsIn w a2 T) (hn : A.length ≤ maxLen) (hn2 : T.length ≤ maxLen) (hz : Sized A) (hz2 : Sized T) :
    Calls Try.prog 5 #[.slice a A.length c, .slice a2 T.length c2, .int .i64 i1, .int .i64 i2, .int .i64 i3, .int .i64 i4] w fun r w' => AnyB r ∧ w' = w := by
  unfold maxLen at hn hn2
  have HA : Hid (StrsIn w a A) := hA
  have HT : Hid (StrsIn w a2 T) := hT
  have HZ : Hid (Sized A) := hz
  have HZ2 : Hid (Sized T) := hz2
  clear hA hT hz hz2
  by_cases t1 : (A.length : Int) ≤ 1048576
  · go_enter Try.func5, Try.ntmps5
    go_wp2
    go_loop [13, 14] (fun z i => ∃ (s : Int) (j : Nat), 0 ≤ s ∧ s ≤ 1048576 ∧ z = .int .i64 s ∧ j ≤ A.length ∧ i = .int .i64 (j : Int)) (fun _ i => A.length - (intOf i).toNat)
    case atStart => exact ⟨_, 0, by omega, t1, rfl, Nat.zero_le _, rfl⟩
    case round =>
      obtain ⟨s, j, hs0, hs1, rfl, hj, rfl⟩ := hrel
      by_cases hlt : j < A.length
      · obtain ⟨b, off, rfl, hc⟩ := HA.out j hlt
        have hzj := HZ.out j hlt
        unfold maxLen at hzj
        have hji : (j : Int) < (A.length : Int) := by omega
        by_cases u1 : ((lineAt A j).size : Int) ≤ 1048576
        · by_cases u2 : s + ((lineAt A j).size : Int) ≤ 1048576
          · go_wp2
            go_round
            case rel => exact ⟨_, j + 1, by omega, u2, rfl, by omega, by go_num⟩
            case measure => simp [intOf]; omega
          · go_wp2
            go_ret
            exact ⟨anyB _, rfl⟩
        · go_wp2
          go_ret
          exact ⟨anyB _, rfl⟩
      · by_cases v1 : (T.length : Int) ≤ 1048576
        · by_cases v2 : s + (T.length : Int) ≤ 1048576
          · go_wp2
            go_loop [13, 15] (fun z i => ∃ (s : Int) (j : Nat), 0 ≤ s ∧ s ≤ 1048576 ∧ z = .int .i64 s ∧ j ≤ T.length ∧ i = .int .i64 (j : Int)) (fun _ i => T.length - (intOf i).toNat)
            case atStart => exact ⟨_, 0, by omega, v2, rfl, Nat.zero_le _, rfl⟩
            case round =>
              obtain ⟨s, j, hs0, hs1, rfl, hj, rfl⟩ := hrel
              by_cases hlt : j < T.length
              · obtain ⟨b, off, rfl, hc⟩ := HT.out j hlt
                have hzj := HZ2.out j hlt
                unfold maxLen at hzj
                have hji : (j : Int) < (T.length : Int) := by omega
                by_cases u1 : ((lineAt T j).size : Int) ≤ 1048576
                · by_cases u2 : s + ((lineAt T j).size : Int) ≤ 1048576
                  · go_wp2
                    go_round
                    case rel => exact ⟨_, j + 1, by omega, u2, rfl, by omega, by go_num⟩
                    case measure => simp [intOf]; omega
                  · go_wp2
                    go_ret
                    exact ⟨anyB _, rfl⟩
                · go_wp2
                  go_ret
                  exact ⟨anyB _, rfl⟩
              · go_wp2
                go_ret
                exact ⟨anyB _, rfl⟩
          · go_wp2
            go_ret
            exact ⟨anyB _, rfl⟩
        · go_wp2
          go_ret
          exact ⟨anyB _, rfl⟩
  · go_enter Try.func5, Try.ntmps5
    go_wp2
    go_ret
    exact ⟨anyB _, rfl⟩

set_option maxHeartbeats 1000000 in
theorem text_any (a : Option Addr) (A : List ByteArray) (c : Nat) (w : World) (hA : StrsIn w a A) (hn : A.length ≤ 65536) (hz : Sized A) :
    Calls Try.prog 6 #[.slice a A.length c] w fun r w' => (∃ s : Int, r = .returned (.int .i64 s) ∧ 0 ≤ s ∧ s ≤ 3000000) ∧ w' = w := by
  have HA : Hid (StrsIn w a A) := hA
  have HZ : Hid (Sized A) := hz
  clear hA hz
  go_enter Try.func6, Try.ntmps6
  go_wp2
  go_loop [3, 4] (fun z i => ∃ (s : Int) (j : Nat), 0 ≤ s ∧ s ≤ 1048576 ∧ z = .int .i64 s ∧ j ≤ A.length ∧ i = .int .i64 (j : Int)) (fun _ i => A.length - (intOf i).toNat)
  case atStart => exact ⟨_, 0, by omega, by omega, rfl, Nat.zero_le _, rfl⟩
  case round =>
    obtain ⟨s, j, hs0, hs1, rfl, hj, rfl⟩ := hrel
    by_cases hlt : j < A.length
    · obtain ⟨b, off, rfl, hc⟩ := HA.out j hlt
      have hzj := HZ.out j hlt
      unfold maxLen at hzj
      have hji : (j : Int) < (A.length : Int) := by omega
      by_cases u1 : ((lineAt A j).size : Int) ≤ 1048576
      · by_cases u2 : s + (16 + ((lineAt A j).size : Int)) ≤ 1048576
        · go_wp2
          go_round
          case rel => exact ⟨_, j + 1, by omega, u2, rfl, by omega, by go_num⟩
          case measure => simp [intOf]; omega
        · go_wp2
          go_ret
          exact ⟨⟨_, rfl, by omega, by omega⟩, rfl⟩
      · go_wp2
        go_ret
        exact ⟨⟨_, rfl, by omega, by omega⟩, rfl⟩
    · go_wp2
      go_ret
      exact ⟨⟨_, rfl, by omega, by omega⟩, rfl⟩
end Go.Proofs.Qxb6602567a.Ms
