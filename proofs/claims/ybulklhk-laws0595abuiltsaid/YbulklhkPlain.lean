/-
  SEAT b0595a: THE PLAIN MATHEMATICS, no Go in sight: one byte is an ASCII digit; all bytes of a list are.
-/
import Derived.WalkKit
namespace Go.Proofs.Ybulklhk

/-- The number is that of an ASCII digit. -/
def digB (n : Int) : Bool := decide (48 ≤ n ∧ n ≤ 57)
theorem digB_yes {n : Int} (h0 : 48 ≤ n) (h1 : n ≤ 57) : digB n = true := decide_eq_true ⟨h0, h1⟩
theorem digB_low {n : Int} (h : n < 48) : digB n = false := decide_eq_false (by omega)
theorem digB_high {n : Int} (h : 57 < n) : digB n = false := decide_eq_false (by omega)
theorem of_digB {n : Int} (h : digB n = true) : 48 ≤ n ∧ n ≤ 57 := of_decide_eq_true h
theorem of_not_digB {n : Int} (h : digB n = false) : ¬ (48 ≤ n ∧ n ≤ 57) := of_decide_eq_false h

/-- Every byte of the list is a digit. -/
def allDig (l : List UInt8) : Bool := l.all fun c => digB (c.toNat : Int)
theorem allDig_nil : allDig [] = true := rfl
theorem allDig_snoc (l : List UInt8) (c : UInt8) : allDig (l ++ [c]) = (allDig l && digB (c.toNat : Int)) := by simp [allDig]
theorem take_snoc (s : ByteArray) (k : Nat) (h : k < s.size) : s.data.toList.take (k + 1) = s.data.toList.take k ++ [s[k]] := by
  rw [List.take_succ_eq_append_getElem (by simpa using h)]; rfl
theorem take_all (s : ByteArray) (k : Nat) (h : s.size ≤ k) : s.data.toList.take k = s.data.toList :=
  List.take_of_length_le (by simpa using h)
theorem allDig_take (s : ByteArray) (k : Nat) (h : k < s.size) : allDig (s.data.toList.take (k + 1)) = (allDig (s.data.toList.take k) && digB (s[k].toNat : Int)) := by
  rw [take_snoc s k h, allDig_snoc]
/-- One byte that is no digit. -/
theorem allDig_no (s : ByteArray) (k : Nat) (h : k < s.size) (hd : digB (s[k].toNat : Int) = false) : allDig s.data.toList = false := by
  have hm : s[k] ∈ s.data.toList := by
    have : s.data.toList[k]'(by simpa using h) ∈ s.data.toList := List.getElem_mem _
    exact this
  rw [allDig, List.all_eq_false]
  exact ⟨_, hm, by simp [hd]⟩
theorem ret_bool {a b : Bool} (h : a = b) : Ending.returned (.bool a) = .returned (.bool b) := by rw [h]

end Go.Proofs.Ybulklhk
