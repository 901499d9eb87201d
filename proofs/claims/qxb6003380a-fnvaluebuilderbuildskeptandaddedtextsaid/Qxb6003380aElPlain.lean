/- Plain facts for the law on element names. No Go in sight. -/
namespace Go.Proofs.Qxb6003380a.El

def bt (s : ByteArray) (k : Nat) : Int := ((s.data.toList.getD k 0).toNat : Int)

theorem bt_eq {s : ByteArray} {k : Nat} (h : k < s.size) : bt s k = ((s[k]'h).toNat : Int) := by
  unfold bt
  rw [List.getD_eq_getElem?_getD, List.getElem?_eq_getElem (by simpa using h)]
  rfl

def ns (c : Int) : Bool := decide (97 ≤ c ∧ c ≤ 122) || decide (65 ≤ c ∧ c ≤ 90) || decide (c = 95) || decide (c = 58)
def nc (c : Int) : Bool := ns c || decide (48 ≤ c ∧ c ≤ 57) || decide (c = 46) || decide (c = 45)

theorem ns_iff (c : Int) : ns c = true ↔ (97 ≤ c ∧ c ≤ 122) ∨ (65 ≤ c ∧ c ≤ 90) ∨ c = 95 ∨ c = 58 := by simp [ns, or_assoc]
theorem nc_iff (c : Int) : nc c = true ↔ ns c = true ∨ (48 ≤ c ∧ c ≤ 57) ∨ c = 46 ∨ c = 45 := by simp [nc, or_assoc]
theorem nc_ns {c : Int} (h : ns c = true) : nc c = true := (nc_iff c).2 (.inl h)

/-- the first k bytes (all of them where k is the length) make an element name -/
def Upto (s : ByteArray) (k : Nat) : Prop := 0 < s.size ∧ ns (bt s 0) = true ∧ ∀ j, 1 ≤ j → j < k → j < s.size → nc (bt s j) = true
def Name (s : ByteArray) : Prop := Upto s s.size

theorem upto1 {s : ByteArray} (h : 0 < s.size) (h0 : ns (bt s 0) = true) : Upto s 1 := ⟨h, h0, fun j a b => absurd b (by omega)⟩
theorem upto_step {s : ByteArray} {k : Nat} (h : Upto s k) (hc : nc (bt s k) = true) : Upto s (k + 1) :=
  ⟨h.1, h.2.1, fun j a b c => by
    by_cases e : j = k
    · subst e; exact hc
    · exact h.2.2 j a (by omega) c⟩
theorem upto_end {s : ByteArray} {k : Nat} (h : Upto s k) (hk : s.size ≤ k) : Name s := ⟨h.1, h.2.1, fun j a _ c => h.2.2 j a (by omega) c⟩
theorem not_empty {s : ByteArray} (h : s.size = 0) : ¬ Name s := fun n => by have := n.1; omega
theorem not_first {s : ByteArray} (h : ns (bt s 0) = false) : ¬ Name s := fun n => by rw [n.2.1] at h; cases h
theorem not_at {s : ByteArray} {k : Nat} (h1 : 1 ≤ k) (hk : k < s.size) (h : nc (bt s k) = false) : ¬ Name s := fun n => by rw [n.2.2 k h1 hk hk] at h; cases h
theorem name_at {s : ByteArray} (n : Name s) {k : Nat} (hk : k < s.size) : nc (bt s k) = true := by
  by_cases c : k = 0
  · subst c; exact nc_ns n.2.1
  · exact n.2.2 k (by omega) hk hk

theorem bt_extract {s : ByteArray} {a b k : Nat} (hb : b ≤ s.size) (h : a + k < b) : bt (s.extract a b) k = bt s (a + k) := by
  have h1 : k < (s.extract a b).size := by simp; omega
  rw [bt_eq h1, bt_eq (show a + k < s.size by omega), ByteArray.getElem_extract]

theorem bt_left {s t : ByteArray} {k : Nat} (h : k < s.size) : bt (s ++ t) k = bt s k := by
  have h1 : k < (s ++ t).size := by simp; omega
  rw [bt_eq h1, bt_eq h, ByteArray.getElem_append_left]
theorem bt_right {s t : ByteArray} {k : Nat} (h : k < t.size) : bt (s ++ t) (s.size + k) = bt t k := by
  have h1 : s.size + k < (s ++ t).size := by simp; omega
  rw [bt_eq h1, bt_eq h, ByteArray.getElem_append_right (by omega)]
  simp

/-- one byte alone -/
theorem one {s : ByteArray} (h : 0 < s.size) : Name (s.extract 0 1) ↔ ns (bt s 0) = true := by
  have hz : (s.extract 0 1).size = 1 := by simp; omega
  have hb : bt (s.extract 0 1) 0 = bt s 0 := bt_extract (by omega) (by omega)
  constructor
  · intro n
    have := n.2.1
    rwa [hb] at this
  · intro n
    exact ⟨by omega, by rwa [hb], fun j a b => absurd b (by omega)⟩

/-- a letter and one byte -/
theorem two {s : ByteArray} {i : Nat} (h : i < s.size) : Name (ByteArray.mk #[97] ++ s.extract i (i + 1)) ↔ nc (bt s i) = true := by
  have hz : (s.extract i (i + 1)).size = 1 := by simp; omega
  have h97 : (ByteArray.mk #[97]).size = 1 := rfl
  have hs : (ByteArray.mk #[97] ++ s.extract i (i + 1)).size = 2 := by simp [hz, h97]
  have hb0 : bt (ByteArray.mk #[97] ++ s.extract i (i + 1)) 0 = 97 := by rw [bt_left (by omega)]; rfl
  have hb1 : bt (ByteArray.mk #[97] ++ s.extract i (i + 1)) 1 = bt s i := by
    have := bt_right (s := ByteArray.mk #[97]) (t := s.extract i (i + 1)) (k := 0) (by omega)
    rw [h97] at this
    rw [this, bt_extract (by omega) (by omega)]
    rfl
  constructor
  · intro n
    have := n.2.2 1 (by omega) (by omega) (by omega)
    rwa [hb1] at this
  · intro n
    refine ⟨by omega, by rw [hb0]; rfl, fun j a b c => ?_⟩
    have : j = 1 := by omega
    subst this
    rwa [hb1]

theorem shorter {s : ByteArray} (n : Name s) (h : 2 ≤ s.size) : Name (s.extract 0 (s.size - 1)) := by
  have hz : (s.extract 0 (s.size - 1)).size = s.size - 1 := by simp
  refine ⟨by omega, ?_, fun j a b c => ?_⟩
  · rw [bt_extract (by omega) (by omega)]; exact n.2.1
  · rw [bt_extract (by omega) (by omega)]
    rw [Nat.zero_add]
    exact n.2.2 j a (by omega) (by omega)

theorem grown {s t : ByteArray} (n : Name s) (ht : t.size = 1) : Name (s ++ t) ↔ nc (bt t 0) = true := by
  have hz : (s ++ t).size = s.size + 1 := by simp [ht]
  have hl : bt (s ++ t) s.size = bt t 0 := bt_right (k := 0) (by omega)
  have hp := n.1
  constructor
  · intro m
    have := m.2.2 s.size (by omega) (by omega) (by omega)
    rwa [hl] at this
  · intro m
    refine ⟨by omega, by rw [bt_left n.1]; exact n.2.1, fun j a b c => ?_⟩
    by_cases e : j = s.size
    · subst e; rwa [hl]
    · rw [bt_left (by omega)]; exact n.2.2 j a (by omega) (by omega)
theorem grown_dash {s : ByteArray} (n : Name s) : Name (s ++ ByteArray.mk #[45]) := (grown n rfl).2 rfl
theorem grown_nine {s : ByteArray} (n : Name s) : Name (s ++ ByteArray.mk #[57]) := (grown n rfl).2 rfl
theorem grown_space {s : ByteArray} (n : Name s) : ¬ Name (s ++ ByteArray.mk #[32]) := fun m => by
  have := (grown n rfl).1 m
  revert this
  decide
end Go.Proofs.Qxb6003380a.El
