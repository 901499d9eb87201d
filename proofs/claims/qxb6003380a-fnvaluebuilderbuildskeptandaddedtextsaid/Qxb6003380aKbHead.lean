/- The head of the claim's function: the bounds on the input. -/
import Derived.Test.Qxb6003380aKbMid
namespace Go.Proofs.Qxb6003380a.Kb
open Go Go.RowKit Vb Sc
set_option linter.unusedVariables false

theorem nats_of (l : List Int) (h : ∀ p, p < l.length → 0 ≤ ig l p) : ∃ k : List Nat, k.length = l.length ∧ ∀ p, p < l.length → ((natAt k p : Nat) : Int) = ig l p := by
  refine ⟨l.map Int.toNat, by simp, fun p hp => ?_⟩
  have := h p hp
  simp only [ig, natAt, List.getD_eq_getElem?_getD, List.getElem?_map, List.getElem?_eq_getElem hp] at this ⊢
  simp at this ⊢
  omega

set_option maxHeartbeats 4000000 in
set_option maxRecDepth 100000 in
theorem headT (text : ByteArray) (i1 i2 : Int) (a3 a4 : Option Addr) (adds : List ByteArray) (kl : List Int) (c3 c4 : Nat) (w : World) (hA0 : a3 = none → adds.length = 0) (hA : StrsIn w a3 adds) (hK0 : a4 = none → kl.length = 0) (hK : IntsIn w a4 kl)
    (ht : text.size ≤ maxLen) (hn : adds.length ≤ maxLen) (hn2 : kl.length ≤ maxLen) (hz : ∀ j, j < adds.length → (strAt adds j).size ≤ maxLen) (hi1 : (Lit.int .i64 i1).wf = true) (hi2 : (Lit.int .i64 i2).wf = true) :
    Calls Try.prog 4 #[.string text, .int .i64 i1, .int .i64 i2, .slice a3 adds.length c3, .slice a4 kl.length c4] w fun e w' => e = .returned (.bool true) ∧ Below w.heap.size w w' := by
  have HBY := bytes_any text i1 i2 a3 a4 adds kl.length c3 c4 w hA ht hn hn2 hz
  have HA0 : Hid (a3 = none → adds.length = 0) := hA0
  have HK0 : Hid (a4 = none → kl.length = 0) := hK0
  have HA : Hid (StrsIn w a3 adds) := hA
  have HK : Hid (IntsIn w a4 kl) := hK
  have HBY2 : Hid (Calls Try.prog 13 #[.string text, .int .i64 i1, .int .i64 i2, .slice a3 adds.length c3, .slice a4 kl.length c4] w fun r w' => AnsB r (Small adds adds.length) ∧ w' = w) := HBY
  clear HBY hA0 hK0 hA hK hz
  unfold maxLen at ht hn hn2
  go_enter Try.func4, Try.ntmps4
  go_wp2_with fail
  refine Calls.mono HBY2.out ?_
  rintro r w' ⟨⟨b, rfl, hb⟩, rfl⟩
  clear HBY2
  cases b with
  | false =>
    clear hb
    go_wp2
    go_ret
    exact ⟨rfl, Below.refl _ _⟩
  | true =>
  have HSM : Hid (Small adds adds.length) := hb rfl
  clear hb
  by_cases t1 : (1048576 : Int) < (text.size : Int)
  · have b1 : decide ((1048576 : Int) < (text.size : Int)) = true := by simpa using t1
    go_wp2
    go_ret
    exact ⟨rfl, Below.refl _ _⟩
  have b1 : decide ((1048576 : Int) < (text.size : Int)) = false := by simpa using t1
  by_cases t2 : (131072 : Int) < (kl.length : Int)
  · have b2 : decide ((131072 : Int) < (kl.length : Int)) = true := by simpa using t2
    go_wp2
    go_ret
    exact ⟨rfl, Below.refl _ _⟩
  have b2 : decide ((131072 : Int) < (kl.length : Int)) = false := by simpa using t2
  by_cases t3 : (65536 : Int) < (adds.length : Int)
  · have b3 : decide ((65536 : Int) < (adds.length : Int)) = true := by simpa using t3
    go_wp2
    go_ret
    exact ⟨rfl, Below.refl _ _⟩
  have b3 : decide ((65536 : Int) < (adds.length : Int)) = false := by simpa using t3
  go_wp2_with fail
  clear b1 b2 b3
  go_loop [11, 12] (fun v11 v12 => ∃ j T : Nat, j ≤ adds.length ∧ v12 = .int .i64 (j : Int) ∧ v11 = .int .i64 (T : Int) ∧ T ≤ 3145728 ∧ Hid (T = text.size + 8 * kl.length + 16 * adds.length + sumLen adds j)) (fun _ v12 => adds.length - (intOf v12).toNat)
  case atStart => exact ⟨0, text.size + 8 * kl.length + 16 * adds.length, Nat.zero_le _, rfl, by go_num, by omega, rfl⟩
  case round =>
    obtain ⟨j, T, hj, rfl, rfl, hT, HT⟩ := hrel
    by_cases hlt : j < adds.length
    · obtain ⟨b, off, rfl, hc⟩ := HA.out j hlt
      have hzj := HSM.out j hlt
      have hji : (j : Int) < (adds.length : Int) := by omega
      by_cases u2 : (1048576 : Int) < (T : Int) + ((strAt adds j).size : Int)
      · go_wp2
        go_ret
        exact ⟨rfl, Below.refl _ _⟩
      · go_wp2
        go_round
        case rel => exact ⟨j + 1, T + (strAt adds j).size, by omega, by go_num, by go_num, by omega, by show _ = _; simp only [sumLen]; have := HT.out; omega⟩
        case measure => simp [intOf]; omega
    · by_cases u2 : (1048576 : Int) < (T : Int)
      · go_wp2
        go_ret
        exact ⟨rfl, Below.refl _ _⟩
      have HT2 : Hid (text.size + sumLen adds adds.length + adds.length + kl.length ≤ 1048576) := by
        have e : j = adds.length := by omega
        have := HT.out
        rw [e] at this
        show _ ≤ _
        omega
      clear HT
      by_cases t5 : i1 < 0
      · have b1 : decide (i1 < 0) = true := by simpa using t5
        go_wp2
        go_ret
        exact ⟨rfl, Below.refl _ _⟩
      have b1 : decide (i1 < 0) = false := by simpa using t5
      by_cases t6 : (text.size : Int) < i1
      · have b2 : decide ((text.size : Int) < i1) = true := by simpa using t6
        go_wp2
        go_ret
        exact ⟨rfl, Below.refl _ _⟩
      have b2 : decide ((text.size : Int) < i1) = false := by simpa using t6
      by_cases t7 : i2 < 0
      · have b3 : decide (i2 < 0) = true := by simpa using t7
        go_wp2
        go_ret
        exact ⟨rfl, Below.refl _ _⟩
      have b3 : decide (i2 < 0) = false := by simpa using t7
      by_cases t8 : (text.size : Int) - i1 < i2
      · have b4 : decide ((text.size : Int) - i1 < i2) = true := by simpa using t8
        go_wp2
        go_ret
        exact ⟨rfl, Below.refl _ _⟩
      have b4 : decide ((text.size : Int) - i1 < i2) = false := by simpa using t8
      go_wp2_with fail
      go_loop [13] (fun v13 => ∃ q : Nat, q ≤ kl.length ∧ v13 = .int .i64 (q : Int) ∧ Hid (∀ p, p < q → 0 ≤ ig kl p ∧ ig kl p < (text.size : Int))) (fun v13 => kl.length - (intOf v13).toNat)
      case atStart => exact ⟨0, Nat.zero_le _, rfl, fun p hp => absurd hp (by omega)⟩
      case round =>
        obtain ⟨q, hq, rfl, HQ⟩ := hrel
        by_cases hql : q < kl.length
        · obtain ⟨b, off, rfl, hc⟩ := HK.out q hql
          have hqi : (q : Int) < (kl.length : Int) := by omega
          by_cases v1 : ig kl q < 0
          · have d1 : decide (ig kl q < 0) = true := by simpa using v1
            go_wp2
            go_ret
            exact ⟨rfl, Below.refl _ _⟩
          have d1 : decide (ig kl q < 0) = false := by simpa using v1
          by_cases v2 : (text.size : Int) ≤ ig kl q
          · have d2 : decide ((text.size : Int) ≤ ig kl q) = true := by simpa using v2
            go_wp2
            go_ret
            exact ⟨rfl, Below.refl _ _⟩
          have d2 : decide ((text.size : Int) ≤ ig kl q) = false := by simpa using v2
          have HQ2 : Hid (∀ p, p < q + 1 → 0 ≤ ig kl p ∧ ig kl p < (text.size : Int)) := fun p hp => by
            by_cases e : p = q
            · subst e; omega
            · exact HQ.out p (by omega)
          go_wp2
          go_round
          case rel => exact ⟨q + 1, by omega, by go_num, HQ2⟩
          case measure => simp [intOf]; omega
        · have HQ3 : Hid (∀ p, p < kl.length → 0 ≤ ig kl p ∧ ig kl p < (text.size : Int)) := fun p hp => HQ.out p (by omega)
          clear HQ
          go_upto_region 21 with fail
          rename_i Kx hKx
          obtain ⟨start, rfl⟩ := Int.eq_ofNat_of_zero_le (show 0 ≤ i1 by omega)
          obtain ⟨k, rfl⟩ := Int.eq_ofNat_of_zero_le (show 0 ≤ i2 by omega)
          obtain ⟨keeps, hkl, hkv⟩ := nats_of kl (fun p hp => (HQ3.out p hp).1)
          have HT3 := HT2.out
          rw [← hkl] at HT3 ⊢
          exact midT text start k adds keeps a3 a4 c3 c4 T w' w' _ _ _ _ _ _ _ _ _ _ _ _ _ _ _ _ _ _ _ _ _ _ _ _ _ _ _ _ _ _ _ _ _ _ _ _ _ _ _ _ _ _ _ _ _ _ _ _ _ _ _ _ _ _ _ _ _ _ _ _ _ _ _ _ _ _ _ _ _ _ _ _ _ _ _ _ _ _ _ _ _ _ _ _ _ _ _ _ _ _ _ _ _ _ _ _ _ _ _ _ _ _ _ _ _ _ _ _ _ _ _ _ _ _ _ _ _ _ _ _ _ _ _ _ _ _ _ _ _ _ _ _ _ _ _ _ _ _ _ _ _ _ _ _ _ _ _ _ _ _ _ _ _ _ _ _ _ _ _ _ _ _ _ _ _ _ _ _ _ _ _ _ _ _ _ _ _ _ _ _ _ _ _ _ _ _ _ _ _ _ _ _ _ _ _ _ _ _ _ _ _ _ _ _ _ _ _ _ _ _ _ _ _ _ _ _ _ _ _ _ _ _ _ _ _ _ _ _ _ _ _ _ _ _ _ _ _ _ _ _ _ _ _ _ _ _ _ _ _ _ _ HA0.out (fun j hj => by
            obtain ⟨b, off, e, hc⟩ := HA.out j hj
            refine ⟨b, off, e, ?_⟩
            rw [hc]
            simp [strAt, List.getD_eq_getElem?_getD, List.getElem?_eq_getElem hj]) (fun e => by rw [hkl]; exact HK0.out e) (fun j hj => by
            rw [hkl] at hj
            obtain ⟨b, off, e, hc⟩ := HK.out j hj
            refine ⟨b, off, e, ?_⟩
            rw [hc, ← hkv j hj]
            have hj2 : j < keeps.length := by omega
            simp [natAt, List.getD_eq_getElem?_getD, List.getElem?_eq_getElem hj2]) (Below.refl _ _) (by omega) (by omega) (by omega) (fun j hj => by
            rw [hkl] at hj
            have := hkv j hj
            have := HQ3.out j hj
            omega) (by omega) (by omega) HT3 (by omega) Kx hKx
end Go.Proofs.Qxb6003380a.Kb
