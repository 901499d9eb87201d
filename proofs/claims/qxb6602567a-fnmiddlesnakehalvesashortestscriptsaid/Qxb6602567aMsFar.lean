/- The furthest point. -/
import Derived.Test.Qxb6602567aMsInv
namespace Go.Proofs.Qxb6602567a.Ms
open Go Go.RowKit
set_option linter.unusedVariables false

/-- no diagonal so far stands further in the box -/
def Most (n m at0 d i : Nat) (F : List Int) (s : Int) : Prop := ∀ j : Nat, j < i → ig F ((at0 : Int) + (2 * (j : Int) - d)).toNat ≤ n → ig F ((at0 : Int) + (2 * (j : Int) - d)).toNat - (2 * (j : Int) - d) ≤ m → 2 * ig F ((at0 : Int) + (2 * (j : Int) - d)).toNat - (2 * (j : Int) - d) ≤ s
theorem Most.all {n m at0 d : Nat} {F : List Int} {s : Int} (h : Most n m at0 d (d + 1) F s) (k : Int) (h1 : -(d : Int) ≤ k) (h2 : k ≤ d) (h3 : (k - d) % 2 = 0) (h4 : ig F ((at0 : Int) + k).toNat ≤ n) (h5 : ig F ((at0 : Int) + k).toNat - k ≤ m) : 2 * ig F ((at0 : Int) + k).toNat - k ≤ s := by
  have e1 : 2 * ((((k + d) / 2).toNat : Nat) : Int) - d = k := by omega
  have := h ((k + d) / 2).toNat (by omega)
  rw [e1] at this
  exact this h4 h5
theorem Most.next {n m at0 d i : Nat} {F : List Int} {s s' : Int} (h : Most n m at0 d i F s) (hs : s ≤ s') (hi : ig F ((at0 : Int) + (2 * (i : Int) - d)).toNat ≤ n → ig F ((at0 : Int) + (2 * (i : Int) - d)).toNat - (2 * (i : Int) - d) ≤ m → 2 * ig F ((at0 : Int) + (2 * (i : Int) - d)).toNat - (2 * (i : Int) - d) ≤ s') : Most n m at0 d (i + 1) F s' := fun j hj h1 h2 => by
  by_cases e : j = i
  · subst e; exact hi h1 h2
  · exact Int.le_trans (h j (by omega) h1 h2) hs

set_option maxHeartbeats 1000000 in
set_option maxRecDepth 100000 in
theorem far_any (w0 w : World) (B gA gT gf gb cA cT R cf cb n m at0 d : Nat) (A T : List ByteArray) (F G : List Int) (e : Nat → Nat → Bool) (hb : Box e n m)
    (hM : Mem w0 w B gA gT gf gb cA cT R cf cb A T F G) (hF : Fw e at0 d F) (hd : d < at0) (hat : at0 ≤ 65538) (hR : at0 + at0 < R) (hRm : R ≤ 131076) (hn : n ≤ 65536) (hm : m ≤ 65536) :
    Calls Try.prog 16 #[.pointer (some ⟨B, 0, none⟩), .int .i64 (d : Int), .int .i64 (at0 : Int), .int .i64 (n : Int), .int .i64 (m : Int)] w fun r w' => (∃ x y : Nat, r = .returned (.tuple #[.int .i64 (x : Int), .int .i64 (y : Int)]) ∧ Far e n m d x y ∧ Most n m at0 d (d + 1) F ((x : Int) + y)) ∧ w' = w := by
  have HM : Hid (Mem w0 w B gA gT gf gb cA cT R cf cb A T F G) := hM
  have HF : Hid (Fw e at0 d F) := hF
  have HB : Hid (Box e n m) := hb
  have s3 := hM.s3
  clear hM hF hb
  go_enter Try.func16, Try.ntmps16
  go_wp2_with fail
  go_loop [10, 11, 12] (fun v10 v11 v12 => ∃ (i : Nat) (k : Int) (x y : Nat), i ≤ d + 1 ∧ k ≤ (d : Int) + 2 ∧ Hid (k = 2 * (i : Int) - d) ∧ v12 = .int .i64 k ∧ v10 = .int .i64 (x : Int) ∧ v11 = .int .i64 (y : Int) ∧ x ≤ n ∧ y ≤ m ∧ Hid (Far e n m d x y ∧ Most n m at0 d i F ((x : Int) + y))) (fun _ _ v12 => ((d : Int) + 2 - intOf v12).toNat)
  case atStart => exact ⟨0, -(d : Int), 0, 0, by omega, by omega, by show _ = _; omega, rfl, rfl, rfl, by omega, by omega, ⟨⟨by omega, by omega, .inl ⟨rfl, rfl⟩⟩, fun j hj => absurd hj (by omega)⟩⟩
  case round =>
    obtain ⟨i, k, x, y, hi, hk3, HKI, rfl, rfl, rfl, hx, hy, HH⟩ := hrel
    have hk1 : -(d : Int) ≤ k := by have := HKI.out; omega
    by_cases hk2 : k ≤ (d : Int)
    · obtain ⟨p, hp⟩ : ∃ p : Nat, (p : Int) = (at0 : Int) + k := ⟨((at0 : Int) + k).toNat, by omega⟩
      have wP : IntKind.i64.wrap ((at0 : Int) + k) = (p : Int) := by rw [IntWalk.i64_in _ ⟨by omega, by omega⟩]; omega
      have hpR : (p : Int) < (R : Int) := by omega
      have hp0 : (0 : Int) ≤ (p : Int) := by omega
      have hz := HF.out k hk1 hk2 (by have := HKI.out; omega)
      have e1 : ((at0 : Int) + k).toNat = p := by omega
      have e2 : ((at0 : Int) + (2 * (i : Int) - d)).toNat = p := by have := HKI.out; omega
      rw [e1] at hz
      obtain ⟨X, Y, hX, hY, hdd, -⟩ := hz
      have hr := HB.out.reach (Nat.le_of_eq hdd)
      obtain ⟨hr1, hr2⟩ := hr
      have t1 := HM.out.cellF (i := p) (by omega)
      rw [hX] at t1
      have wY : IntKind.i64.wrap ((X : Int) - k) = (Y : Int) := by rw [IntWalk.i64_in _ ⟨by omega, by omega⟩]; omega
      have HDD : Hid (Dst e X Y = d) := hdd
      have HXY : Hid (ig F p = (X : Int) ∧ k = (X : Int) - Y ∧ ((at0 : Int) + (2 * (i : Int) - d)).toNat = p) := ⟨hX, hY, e2⟩
      clear hp e1 e2 hX hY hdd
      by_cases c1 : X ≤ n
      · have b1 : decide (X ≤ n) = true := by simpa using c1
        by_cases c2 : Y ≤ m
        · have b2 : decide (Y ≤ m) = true := by simpa using c2
          by_cases c3 : (x : Int) + (y : Int) < (X : Int) + (Y : Int)
          · have b3 : decide ((x : Int) + (y : Int) < (X : Int) + (Y : Int)) = true := by simpa using c3
            have HN : Hid (Far e n m d X Y ∧ Most n m at0 d (i + 1) F ((X : Int) + Y)) := ⟨⟨c1, c2, .inr HDD.out⟩, HH.out.2.next (by omega) (fun g1 g2 => by have := HXY.out; rw [this.2.2, this.1]; have := HKI.out; omega)⟩
            go_wp2
            go_round
            case rel => exact ⟨i + 1, k + 2, X, Y, by have := HKI.out; omega, by omega, by show _ = _; have := HKI.out; omega, by go_num, rfl, rfl, c1, c2, HN⟩
            case measure => simp [intOf]; omega
          · have b3 : decide ((x : Int) + (y : Int) < (X : Int) + (Y : Int)) = false := by simpa using c3
            have HN : Hid (Far e n m d x y ∧ Most n m at0 d (i + 1) F ((x : Int) + y)) := ⟨HH.out.1, HH.out.2.next (by omega) (fun g1 g2 => by have := HXY.out; rw [this.2.2, this.1]; have := HKI.out; omega)⟩
            go_wp2
            go_round
            case rel => exact ⟨i + 1, k + 2, x, y, by have := HKI.out; omega, by omega, by show _ = _; have := HKI.out; omega, by go_num, rfl, rfl, hx, hy, HN⟩
            case measure => simp [intOf]; omega
        · have b2 : decide (Y ≤ m) = false := by simpa using c2
          have HN : Hid (Far e n m d x y ∧ Most n m at0 d (i + 1) F ((x : Int) + y)) := ⟨HH.out.1, HH.out.2.next (by omega) (fun g1 g2 => by have := HXY.out; rw [this.2.2, this.1] at g2; have := HKI.out; omega)⟩
          go_wp2
          go_round
          case rel => exact ⟨i + 1, k + 2, x, y, by have := HKI.out; omega, by omega, by show _ = _; have := HKI.out; omega, by go_num, rfl, rfl, hx, hy, HN⟩
          case measure => simp [intOf]; omega
      · have b1 : decide (X ≤ n) = false := by simpa using c1
        have HN : Hid (Far e n m d x y ∧ Most n m at0 d (i + 1) F ((x : Int) + y)) := ⟨HH.out.1, HH.out.2.next (by omega) (fun g1 g2 => by have := HXY.out; rw [this.2.2, this.1] at g1; omega)⟩
        go_wp2
        go_round
        case rel => exact ⟨i + 1, k + 2, x, y, by have := HKI.out; omega, by omega, by show _ = _; have := HKI.out; omega, by go_num, rfl, rfl, hx, hy, HN⟩
        case measure => simp [intOf]; omega
    · have HN : Hid (Far e n m d x y ∧ Most n m at0 d (d + 1) F ((x : Int) + y)) := by
        have h1 := HH.out
        have e1 : i = d + 1 := by have := HKI.out; omega
        rw [e1] at h1
        exact h1
      go_wp2
      go_ret2
      exact ⟨⟨x, y, rfl, HN.out.1, HN.out.2⟩, rfl⟩
end Go.Proofs.Qxb6602567a.Ms
