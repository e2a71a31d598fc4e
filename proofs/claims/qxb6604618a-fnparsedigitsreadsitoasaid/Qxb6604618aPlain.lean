import Derived.RowKit
import Derived.IntWalk
namespace Go.Proofs.Qxb6604618a.Pd
open Go.RowKit

/-- one digit's step, as int64 arithmetic does it -/
def stp (n : Int) (c : UInt8) : Int := wrap64 (wrap64 (n * 10) + ((c.toNat : Int) - 48))
def pv (l : List UInt8) : Int := l.foldl stp 0
def isD (c : UInt8) : Bool := decide (48 ≤ (c.toNat : Int)) && decide ((c.toNat : Int) ≤ 57)
def allD (l : List UInt8) : Bool := l.all isD
def pn (l : List UInt8) : Int := if allD l then pv l else 0

theorem pv_snoc (l : List UInt8) (c : UInt8) : pv (l ++ [c]) = stp (pv l) c := by
  unfold pv; rw [List.foldl_append]; rfl
theorem allD_snoc (l : List UInt8) (c : UInt8) : allD (l ++ [c]) = (allD l && isD c) := by
  unfold allD; simp
theorem isD_of {c : UInt8} (h1 : 48 ≤ (c.toNat : Int)) (h2 : (c.toNat : Int) ≤ 57) : isD c = true := by
  unfold isD; simp; omega
theorem isD_not {c : UInt8} (h : (c.toNat : Int) < 48 ∨ 57 < (c.toNat : Int)) : isD c = false := by
  unfold isD; simp; omega
theorem take_snoc (s : ByteArray) (k : Nat) (h : k < s.size) : s.data.toList.take (k + 1) = s.data.toList.take k ++ [s[k]] := by
  rw [List.take_succ_eq_append_getElem (by simpa using h)]; rfl
theorem take_all (s : ByteArray) (k : Nat) (h : s.size ≤ k) : s.data.toList.take k = s.data.toList :=
  List.take_of_length_le (by simpa using h)
theorem allD_take {l : List UInt8} {k : Nat} (h : allD (l.take k) = false) : allD l = false := by
  rw [← List.take_append_drop k l]; unfold allD at *; rw [List.all_append, h]; rfl
theorem pn_of {l : List UInt8} (h : allD l = true) : pn l = pv l := by unfold pn; rw [if_pos h]
theorem pn_not {l : List UInt8} (h : allD l = false) : pn l = 0 := by unfold pn; rw [if_neg (by rw [h]; simp)]
end Go.Proofs.Qxb6604618a.Pd
