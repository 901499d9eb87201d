/- Plain facts for the law on unescapedLineEnd: runs of backslashes in a byte text. No Go in sight. -/
namespace Go.Proofs.Qxb6003380a.Ule

/-- the byte of s at k, as a number; 0 past the end -/
def bt (s : ByteArray) (k : Nat) : Nat := (s.data.toList.getD k 0).toNat

theorem bt_eq {s : ByteArray} {k : Nat} (h : k < s.size) : bt s k = (s[k]'h).toNat := by
  unfold bt
  rw [List.getD_eq_getElem?_getD, List.getElem?_eq_getElem (by simpa using h)]
  rfl

/-- how many backslashes stand right before k -/
def run (s : ByteArray) : Nat → Nat
  | 0 => 0
  | k + 1 => if bt s k = 92 then run s k + 1 else 0

theorem run_le (s : ByteArray) (k : Nat) : run s k ≤ k := by
  induction k with
  | zero => simp [run]
  | succ k ih => simp only [run]; split <;> omega

def Hit (s : ByteArray) (j : Nat) : Prop := bt s j = 10 ∧ run s j % 2 = 0

/-- v is the place of the first line feed behind an even run, or -1 -/
def Is (s : ByteArray) (v : Int) : Prop :=
  (v = -1 ∧ ∀ i, i < s.size → ¬ Hit s i) ∨ ∃ j : Nat, v = j ∧ j < s.size ∧ Hit s j ∧ ∀ i, i < j → ¬ Hit s i

theorem Is.unique {s : ByteArray} {v u : Int} (hv : Is s v) (hu : Is s u) : v = u := by
  rcases hv with ⟨rfl, hv⟩ | ⟨j, rfl, hj, hh, hb⟩
  · rcases hu with ⟨rfl, _⟩ | ⟨i, rfl, hi, hhi, _⟩
    · rfl
    · exact absurd hhi (hv i hi)
  · rcases hu with ⟨rfl, hu⟩ | ⟨i, rfl, hi, hhi, hbi⟩
    · exact absurd hh (hu j hj)
    · rcases Nat.lt_trichotomy i j with h | h | h
      · exact absurd hhi (hb i h)
      · rw [h]
      · exact absurd hh (hbi j h)

/-- the scan's state at k: nothing found below k, and k is not escaped -/
def Scan (s : ByteArray) (k : Nat) : Prop := (∀ i, i < k → i < s.size → ¬ Hit s i) ∧ (k ≤ s.size → run s k % 2 = 0)

theorem scan0 (s : ByteArray) : Scan s 0 := ⟨fun i h => absurd h (by omega), fun _ => rfl⟩

theorem scan_bs {s : ByteArray} {k : Nat} (h : k < s.size) (hs : Scan s k) (hb : (((s[k]'h).toNat : Int) == 92) = true) : Scan s (k + 1 + 1) := by
  have hb' : bt s k = 92 := by rw [bt_eq h]; simp at hb; omega
  have he := hs.2 (by omega)
  refine ⟨fun i hi hi2 hH => ?_, fun _ => ?_⟩
  · by_cases c : i < k
    · exact hs.1 i c hi2 hH
    · by_cases c2 : i = k
      · subst c2; have := hH.1; omega
      · have : i = k + 1 := by omega
        subst this
        have := hH.2
        simp only [run, hb', if_pos] at this
        omega
  · show (if bt s (k + 1) = 92 then run s (k + 1) + 1 else 0) % 2 = 0
    split
    · simp only [run, hb', if_pos]; omega
    · rfl

theorem scan_other {s : ByteArray} {k : Nat} (h : k < s.size) (hs : Scan s k) (hb : (((s[k]'h).toNat : Int) == 92) = false) (hc : (((s[k]'h).toNat : Int) == 10) = false) : Scan s (k + 1) := by
  have hb' : bt s k ≠ 92 := by rw [bt_eq h]; simp at hb; omega
  have hc' : bt s k ≠ 10 := by rw [bt_eq h]; simp at hc; omega
  refine ⟨fun i hi hi2 hH => ?_, fun _ => by simp [run, hb']⟩
  by_cases c : i < k
  · exact hs.1 i c hi2 hH
  · have : i = k := by omega
    subst this; exact hc' hH.1

theorem scan_hit {s : ByteArray} {k : Nat} (h : k < s.size) (hs : Scan s k) (hc : (((s[k]'h).toNat : Int) == 10) = true) : Is s (k : Int) :=
  .inr ⟨k, rfl, h, ⟨by rw [bt_eq h]; simp at hc; omega, hs.2 (by omega)⟩, fun i hi => hs.1 i hi (by omega)⟩

theorem scan_end {s : ByteArray} {k : Nat} (h : ¬ k < s.size) (hs : Scan s k) : Is s (-1) :=
  .inl ⟨rfl, fun i hi => hs.1 i (by omega) hi⟩

/-! the law's own loops -/
theorem back_step {s : ByteArray} {j r : Nat} {m : Nat} (hm : m < s.size) (hj : r < j) (e : m + r + 1 = j) (h : run s j = r + run s (j - r)) (hb : (((s[m]'hm).toNat : Int) == 92) = true) :
    run s j = (r + 1) + run s (j - (r + 1)) := by
  have hb' : bt s m = 92 := by rw [bt_eq hm]; simp at hb; omega
  have e1 : j - r = m + 1 := by omega
  have e2 : j - (r + 1) = m := by omega
  rw [h, e1, e2]
  simp only [run, hb', if_pos]; omega

theorem back_end {s : ByteArray} {j r : Nat} (hr : r ≤ j) (h : run s j = r + run s (j - r)) (hz : ¬ r < j) : run s j = r := by
  have e1 : j - r = 0 := by omega
  rw [e1] at h; simpa [run] using h

theorem back_stop {s : ByteArray} {j r : Nat} {m : Nat} (hm : m < s.size) (e : m + r + 1 = j) (h : run s j = r + run s (j - r)) (hb : (((s[m]'hm).toNat : Int) == 92) = false) : run s j = r := by
  have hb' : bt s m ≠ 92 := by rw [bt_eq hm]; simp at hb; omega
  have e1 : j - r = m + 1 := by omega
  rw [h, e1]
  simp [run, hb']

def Below (s : ByteArray) (k : Nat) : Prop := ∀ i, i < k → ¬ Hit s i

theorem below0 (s : ByteArray) : Below s 0 := fun i h => absurd h (by omega)
theorem below_skip {s : ByteArray} {k : Nat} (h : k < s.size) (hs : Below s k) (hc : (((s[k]'h).toNat : Int) != 10) = true) : Below s (k + 1) := fun i hi hH => by
  have hc' : bt s k ≠ 10 := by rw [bt_eq h]; simp at hc; omega
  by_cases c : i < k
  · exact hs i c hH
  · have : i = k := by omega
    subst this; exact hc' hH.1
theorem below_odd {s : ByteArray} {k r : Nat} (hs : Below s k) (hr : run s k = r) (ho : ((r : Int) % 2 == 0) = false) : Below s (k + 1) := fun i hi hH => by
  by_cases c : i < k
  · exact hs i c hH
  · have : i = k := by omega
    subst this; have := hH.2; rw [hr] at this; simp at ho; omega
theorem below_hit {s : ByteArray} {k r : Nat} (h : k < s.size) (hs : Below s k) (hc : (((s[k]'h).toNat : Int) != 10) = false) (hr : run s k = r) (ho : ((r : Int) % 2 == 0) = true) : Is s (k : Int) :=
  .inr ⟨k, rfl, h, ⟨by rw [bt_eq h]; simp at hc; omega, by rw [hr]; simp at ho; omega⟩, hs⟩
theorem below_end {s : ByteArray} {k : Nat} (h : ¬ k < s.size) (hs : Below s k) : Is s (-1) := .inl ⟨rfl, fun i hi => hs i (by omega)⟩
end Go.Proofs.Qxb6003380a.Ule
