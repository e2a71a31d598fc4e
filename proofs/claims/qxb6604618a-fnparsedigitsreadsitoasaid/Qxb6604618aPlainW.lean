import Derived.Test.Qxb6604618aPlain
namespace Go.Proofs.Qxb6604618a.Pd
open Go.RowKit

theorem wrap_bmod (n : Int) : wrap64 n = Int.bmod n 18446744073709551616 := by
  unfold wrap64 Int.bmod
  simp only []
  split <;> omega
theorem wrap_zero : wrap64 0 = 0 := by unfold wrap64; omega
theorem wrap_one : wrap64 1 = 1 := by unfold wrap64; omega
theorem wrap_mulL (a b : Int) : wrap64 (wrap64 a * b) = wrap64 (a * b) := by
  simp only [wrap_bmod, Int.bmod_mul_bmod]
theorem wrap_mulR (a b : Int) : wrap64 (a * wrap64 b) = wrap64 (a * b) := by
  simp only [wrap_bmod, Int.mul_bmod_bmod]
theorem wrap_addL (a b : Int) : wrap64 (wrap64 a + b) = wrap64 (a + b) := by
  unfold wrap64; omega
theorem wrap_addR (a b : Int) : wrap64 (a + wrap64 b) = wrap64 (a + b) := by
  unfold wrap64; omega

/-- the exact number -/
def ev (l : List UInt8) : Int := l.foldl (fun n c => n * 10 + ((c.toNat : Int) - 48)) 0
theorem stp_ev (n : Int) (c : UInt8) : stp (wrap64 n) c = wrap64 (n * 10 + ((c.toNat : Int) - 48)) := by
  unfold stp; rw [wrap_mulL, wrap_addL]
theorem fold_ev (l : List UInt8) : ∀ n : Int, l.foldl stp (wrap64 n) = wrap64 (l.foldl (fun n c => n * 10 + ((c.toNat : Int) - 48)) n) := by
  induction l with
  | nil => intro n; rfl
  | cons c l ih => intro n; simp only [List.foldl_cons]; rw [stp_ev, ih]
theorem pv_ev (l : List UInt8) : pv l = wrap64 (ev l) := by
  unfold pv ev; rw [← fold_ev, wrap_zero]

/-- the powers of ten and the sum by place, as the law's text reckons them -/
def pw : Nat → Int
  | 0 => 1
  | n + 1 => wrap64 (pw n * 10)
def wnt : List UInt8 → Int
  | [] => 0
  | c :: l => wrap64 (wnt l + wrap64 (((c.toNat : Int) - 48) * pw l.length))
def ew : List UInt8 → Int
  | [] => 0
  | c :: l => ew l + ((c.toNat : Int) - 48) * 10 ^ l.length
theorem pw_ev : ∀ n : Nat, pw n = wrap64 (10 ^ n)
  | 0 => by rw [pw, Int.pow_zero, wrap_one]
  | n + 1 => by rw [pw, pw_ev n, wrap_mulL, Int.pow_succ]
theorem wnt_ew : ∀ l : List UInt8, wnt l = wrap64 (ew l)
  | [] => by rw [wnt, ew, wrap_zero]
  | c :: l => by rw [wnt, wnt_ew l, wrap_addL, wrap_addR, pw_ev, ← wrap_addR, wrap_mulR, wrap_addR, ew]
theorem fold_ew (l : List UInt8) : ∀ n : Int, l.foldl (fun n c => n * 10 + ((c.toNat : Int) - 48)) n = n * 10 ^ l.length + ew l := by
  induction l with
  | nil => intro n; simp [ew]
  | cons c l ih =>
    intro n
    simp only [List.foldl_cons, ew, List.length_cons]
    rw [ih, Int.pow_succ, Int.add_mul, Int.mul_assoc n 10, Int.mul_comm 10]
    omega
theorem pv_wnt (l : List UInt8) : pv l = wnt l := by
  rw [pv_ev, wnt_ew]
  have := fold_ew l 0
  unfold ev
  rw [this]; simp

theorem drop_cons (s : ByteArray) (k : Nat) (h : k < s.size) : s.data.toList.drop k = s[k] :: s.data.toList.drop (k + 1) := by
  rw [List.drop_eq_getElem_cons (by simpa using h)]; rfl
theorem isD_at {s : ByteArray} (h : allD s.data.toList = true) (k : Nat) (hk : k < s.size) : 48 ≤ (s[k].toNat : Int) ∧ (s[k].toNat : Int) ≤ 57 := by
  unfold allD at h
  rw [List.all_eq_true] at h
  have := h s[k] (by
    have e : s[k] = s.data.toList[k]'(by simpa using hk) := rfl
    rw [e]; exact List.getElem_mem _)
  unfold isD at this
  simpa using this
theorem wnt_step (s : ByteArray) (k : Nat) (h : k < s.size) : wnt (s.data.toList.drop k) = wrap64 (wnt (s.data.toList.drop (k + 1)) + wrap64 (((s[k].toNat : Int) - 48) * pw (s.size - (k + 1)))) := by
  rw [drop_cons s k h, wnt, List.length_drop]
  rfl
theorem pw_step (n k : Nat) (h : k < n) : pw (n - k) = wrap64 (pw (n - (k + 1)) * 10) := by
  have : n - k = (n - (k + 1)) + 1 := by omega
  rw [this, pw]
end Go.Proofs.Qxb6604618a.Pd
