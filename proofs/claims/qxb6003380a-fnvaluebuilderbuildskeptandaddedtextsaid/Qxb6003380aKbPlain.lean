/- The plain side of the law on kept and added text. No Go in sight. -/
import Derived.Test.Qxb6003380aScPlain
namespace Go.Proofs.Qxb6003380a.Kb
open Sc

/-- the marks: the first is (0, start), they rise, none stands past the value's end n -/
structure MR (start n : Nat) (ms : List (Int × Int)) : Prop where
  pos : 0 < ms.length
  a0 : at' ms 0 = 0
  f0 : fr' ms 0 = start
  am : ∀ p, p + 1 < ms.length → at' ms p ≤ at' ms (p + 1)
  al : ∀ p, p < ms.length → at' ms p ≤ n

theorem MR.one (start : Nat) : MR start 0 [(0, (start : Int))] := ⟨by simp, rfl, rfl, fun p hp => by simp at hp, fun p hp => by
  have : p = 0 := by simpa using hp
  subst this; simp [at']⟩
theorem MR.grow {start n n' : Nat} {ms : List (Int × Int)} (h : MR start n ms) (hn : n ≤ n') : MR start n' ms := ⟨h.pos, h.a0, h.f0, h.am, fun p hp => by have := h.al p hp; omega⟩
theorem MR.push {start n : Nat} {ms : List (Int × Int)} (h : MR start n ms) (i : Int) : MR start n (ms ++ [((n : Int), i)]) := by
  have hl : (ms ++ [((n : Int), i)]).length = ms.length + 1 := by simp
  refine ⟨by omega, by rw [at_app h.pos]; exact h.a0, by rw [fr_app h.pos]; exact h.f0, fun p hp => ?_, fun p hp => ?_⟩
  · rw [hl] at hp
    rw [at_app (by omega)]
    by_cases c : p + 1 < ms.length
    · rw [at_app c]; exact h.am p c
    · have : p + 1 = ms.length := by omega
      rw [this, at_new]; exact h.al p (by omega)
  · rw [hl] at hp
    by_cases c : p < ms.length
    · rw [at_app c]; exact h.al p c
    · have : p = ms.length := by omega
      rw [this, at_new]; exact Int.le_refl _
theorem MR.keep {start n : Nat} {ms : List (Int × Int)} (h : MR start n ms) (nx : Int) (i : Nat) : MR start n (keepM ms nx i n) := by
  unfold keepM
  split
  · exact h
  · exact h.push _
theorem keepM_len (ms : List (Int × Int)) (nx : Int) (i n : Nat) : (keepM ms nx i n).length ≤ ms.length + 1 := by
  unfold keepM
  split
  · omega
  · simp

def byteAt (text : ByteArray) (i : Nat) : UInt8 := text.data.toList.getD i 0
theorem byteAt_eq {text : ByteArray} {i : Nat} (h : i < text.size) : byteAt text i = text[i] := by
  unfold byteAt
  rw [List.getD_eq_getElem?_getD, List.getElem?_eq_getElem (by simpa using h)]
  rfl
def strAt (adds : List ByteArray) (j : Nat) : ByteArray := adds.getD j ByteArray.empty
def natAt (keeps : List Nat) (j : Nat) : Nat := keeps.getD j 0

/-- the value behind j adds, each with the keep that follows it -/
def W2 (text : ByteArray) (base : List UInt8) (adds : List ByteArray) (keeps : List Nat) : Nat → List UInt8
  | 0 => base
  | j + 1 => W2 text base adds keeps j ++ (strAt adds j).data.toList ++ (if j < keeps.length then [byteAt text (natAt keeps j)] else [])
/-- and behind t keeps more -/
def W3 (text : ByteArray) (base : List UInt8) (keeps : List Nat) (n : Nat) : Nat → List UInt8
  | 0 => base
  | t + 1 => W3 text base keeps n t ++ [byteAt text (natAt keeps (n + t))]

/-- how long the first j adds are together -/
def sumLen (adds : List ByteArray) : Nat → Nat
  | 0 => 0
  | j + 1 => sumLen adds j + (strAt adds j).size

theorem size_data (s : ByteArray) : s.data.toList.length = s.size := rfl
theorem W2_len (text : ByteArray) (base : List UInt8) (adds : List ByteArray) (keeps : List Nat) (j : Nat) : (W2 text base adds keeps j).length ≤ base.length + sumLen adds j + j := by
  induction j with
  | zero => simp [W2, sumLen]
  | succ j ih =>
    simp only [W2, sumLen, List.length_append, size_data]
    split <;> simp <;> omega
theorem W2_sum_le (text : ByteArray) (base : List UInt8) (adds : List ByteArray) (keeps : List Nat) (j : Nat) : (W2 text base adds keeps j).length + (strAt adds j).size ≤ base.length + sumLen adds (j + 1) + j := by
  have := W2_len text base adds keeps j
  simp only [sumLen]
  omega
theorem W3_len (text : ByteArray) (base : List UInt8) (keeps : List Nat) (n t : Nat) : (W3 text base keeps n t).length = base.length + t := by
  induction t with
  | zero => rfl
  | succ t ih => simp only [W3, List.length_append, ih]; simp; omega
theorem sumLen_mono (adds : List ByteArray) (i j : Nat) (h : i ≤ j) : sumLen adds i ≤ sumLen adds j := by
  induction j with
  | zero => have : i = 0 := by omega
            subst this; exact Nat.le_refl _
  | succ j ih =>
    by_cases c : i ≤ j
    · have := ih c; simp only [sumLen]; omega
    · have : i = j + 1 := by omega
      subst this; exact Nat.le_refl _
end Go.Proofs.Qxb6003380a.Kb
