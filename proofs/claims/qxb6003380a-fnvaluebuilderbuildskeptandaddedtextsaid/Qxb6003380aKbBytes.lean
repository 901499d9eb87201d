/- zzBytes: the lengths that a call of the claim reaches. -/
import Derived.Test.Qxb6003380aKbRun
import Derived.Outline
namespace Go.Proofs.Qxb6003380a.Kb
open Go Go.RowKit Vb Sc
set_option linter.unusedVariables false
/-- slices as they came in: their cells lie anywhere -/
def StrsIn (w : World) (a : Option Addr) (l : List ByteArray) : Prop := ∀ j, j < l.length → ∃ b off, a = some ⟨b, off, none⟩ ∧ w.cell? ⟨b, off + j, none⟩ = some (.string (strAt l j))
def IntsIn (w : World) (a : Option Addr) (l : List Int) : Prop := ∀ j, j < l.length → ∃ b off, a = some ⟨b, off, none⟩ ∧ w.cell? ⟨b, off + j, none⟩ = some (.int .i64 (ig l j))
/-- a bool, and what it says where it is true -/
def AnsB (r : Ending) (p : Prop) : Prop := ∃ b : Bool, r = .returned (.bool b) ∧ (b = true → p)
theorem ansb_no {p : Prop} : AnsB (.returned (.bool false)) p := ⟨false, rfl, fun h => by cases h⟩
theorem ansb_yes {p : Prop} (h : p) : AnsB (.returned (.bool true)) p := ⟨true, rfl, fun _ => h⟩
def Small (adds : List ByteArray) (n : Nat) : Prop := ∀ j, j < n → (strAt adds j).size ≤ 1048576

set_option maxHeartbeats 1000000 in
theorem bytes_any (text : ByteArray) (i1 i2 : Int) (a a2 : Option Addr) (adds : List ByteArray) (n2 c c2 : Nat) (w : World) (hA : StrsIn w a adds) (ht : text.size ≤ maxLen) (hn : adds.length ≤ maxLen) (hn2 : n2 ≤ maxLen) (hz : ∀ j, j < adds.length → (strAt adds j).size ≤ maxLen) :
    Calls Try.prog 13 #[.string text, .int .i64 i1, .int .i64 i2, .slice a adds.length c, .slice a2 n2 c2] w fun r w' => AnsB r (Small adds adds.length) ∧ w' = w := by
  unfold maxLen at ht hn hn2 hz
  have HA : Hid (StrsIn w a adds) := hA
  have HZ : Hid _ := hz
  clear hA hz
  by_cases t1 : (text.size : Int) ≤ 1048576
  · by_cases t2 : (adds.length : Int) ≤ 1048576
    · by_cases t3 : (text.size : Int) + (adds.length : Int) ≤ 1048576
      · go_enter Try.func13, Try.ntmps13
        go_wp2
        go_loop [11, 12] (fun z i => ∃ (s : Int) (j : Nat), 0 ≤ s ∧ s ≤ 1048576 ∧ z = .int .i64 s ∧ j ≤ adds.length ∧ i = .int .i64 (j : Int) ∧ Small adds j) (fun _ i => adds.length - (intOf i).toNat)
        case atStart => exact ⟨_, 0, by omega, t3, rfl, Nat.zero_le _, rfl, fun j h => absurd h (by omega)⟩
        case round =>
          obtain ⟨s, j, hs0, hs1, rfl, hj, rfl, hsm⟩ := hrel
          have HS : Hid (Small adds j) := hsm
          clear hsm
          by_cases hlt : j < adds.length
          · obtain ⟨b, off, rfl, hc⟩ := HA.out j hlt
            have hzj := HZ.out j hlt
            have hji : (j : Int) < (adds.length : Int) := by omega
            by_cases u1 : ((strAt adds j).size : Int) ≤ 1048576
            · have HS2 : Hid (Small adds (j + 1)) := fun i hi => by
                by_cases e : i = j
                · subst e; omega
                · exact HS.out i (by omega)
              by_cases u2 : s + ((strAt adds j).size : Int) ≤ 1048576
              · go_wp2
                go_round
                case rel => exact ⟨_, j + 1, by omega, u2, rfl, by omega, by go_num, HS2.out⟩
                case measure => simp [intOf]; omega
              · go_wp2
                go_ret
                exact ⟨ansb_no, rfl⟩
            · go_wp2
              go_ret
              exact ⟨ansb_no, rfl⟩
          · have hjn : j = adds.length := by omega
            have HS3 : Hid (Small adds adds.length) := by rw [← hjn]; exact HS.out
            clear hjn
            by_cases v1 : (n2 : Int) ≤ 1048576
            · by_cases v2 : s + (n2 : Int) ≤ 1048576
              · go_wp2
                go_ret
                exact ⟨ansb_yes HS3.out, rfl⟩
              · go_wp2
                go_ret
                exact ⟨ansb_no, rfl⟩
            · go_wp2
              go_ret
              exact ⟨ansb_no, rfl⟩
      · go_enter Try.func13, Try.ntmps13
        go_wp2
        go_ret
        exact ⟨ansb_no, rfl⟩
    · go_enter Try.func13, Try.ntmps13
      go_wp2
      go_ret
      exact ⟨ansb_no, rfl⟩
  · go_enter Try.func13, Try.ntmps13
    go_wp2
    go_ret
    exact ⟨ansb_no, rfl⟩
end Go.Proofs.Qxb6003380a.Kb
