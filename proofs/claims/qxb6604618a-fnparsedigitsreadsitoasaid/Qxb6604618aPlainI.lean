import Derived.Test.Qxb6604618aPlainW
import Derived.WalkKit
import Derived.Laws.IdiomStrings
namespace Go.Proofs.Qxb6604618a.Pd
open Go.RowKit

theorem ew_nonneg : ∀ (D : List UInt8), allD D = true → 0 ≤ ew D
  | [], _ => by simp [ew]
  | c :: D, h => by
    unfold allD at h
    simp only [List.all_cons, Bool.and_eq_true] at h
    have h2 := ew_nonneg D h.2
    have h1 := h.1
    unfold isD at h1
    simp only [Bool.and_eq_true, decide_eq_true_eq] at h1
    have : 0 ≤ ((c.toNat : Int) - 48) * 10 ^ D.length := Int.mul_nonneg (by omega) (Int.le_of_lt (Int.pow_pos (by omega)))
    rw [ew]; omega

/-- the digit that is written for X -/
def dg (X : Int) : UInt8 := UInt8.ofNat (48 + (X % 10).toNat)
theorem dg_nat (X : Int) : ((dg X).toNat : Int) = 48 + X % 10 := by
  unfold dg
  rw [UInt8.toNat_ofNat_of_lt' (by show _ < 256; omega)]
  omega
theorem allD_dg (X : Int) (D : List UInt8) (h : allD D = true) : allD (dg X :: D) = true := by
  have := dg_nat X
  unfold allD at *
  rw [List.all_cons, h, isD_of (by omega) (by omega)]; rfl
theorem inv_step (X v : Int) (D : List UInt8) (h : X * 10 ^ D.length + ew D = v) : X / 10 * 10 ^ (dg X :: D).length + ew (dg X :: D) = v := by
  have e := dg_nat X
  rw [ew, List.length_cons, Int.pow_succ]
  have h1 : ((dg X).toNat : Int) - 48 = X % 10 := by omega
  rw [h1, ← h]
  have h2 : X = X / 10 * 10 + X % 10 := by omega
  generalize (10 : Int) ^ D.length = P at *
  have h3 : X * P = (X / 10 * 10 + X % 10) * P := by rw [← h2]
  rw [h3, Int.add_mul, Int.mul_comm P 10, Int.mul_assoc (X / 10) 10 P]
  omega
theorem len_lt (X v : Int) (D : List UInt8) (hD : D.length ≤ 19) (ha : allD D = true) (h : X * 10 ^ D.length + ew D = v) (hX : 0 < X) (hv : v ≤ 9223372036854775807) : D.length < 19 := by
  rcases Nat.lt_or_ge D.length 19 with g | g
  · exact g
  · exfalso
    have e : D.length = 19 := by omega
    rw [e] at h
    have := ew_nonneg D ha
    have h2 : (10 : Int) ^ 19 = 10000000000000000000 := by decide
    rw [h2] at h
    omega
theorem x_le (X v : Int) (D : List UInt8) (ha : allD D = true) (h : X * 10 ^ D.length + ew D = v) (hX : 0 ≤ X) : X ≤ v := by
  have h1 := ew_nonneg D ha
  have h2 : (0 : Int) < 10 ^ D.length := Int.pow_pos (by omega)
  have h3 : X * 1 ≤ X * 10 ^ D.length := Int.mul_le_mul_of_nonneg_left (by omega) hX
  omega
theorem ew_zeros : ∀ (z : Nat) (D : List UInt8), ew (List.replicate z 48 ++ D) = ew D
  | 0, D => rfl
  | z + 1, D => by
    rw [List.replicate_succ, List.cons_append, ew, ew_zeros z D]
    have : (((48 : UInt8).toNat : Int) - 48) = 0 := by decide
    rw [this]; omega
theorem allD_zeros (z : Nat) (D : List UInt8) (h : allD D = true) : allD (List.replicate z 48 ++ D) = true := by
  unfold allD at *
  rw [List.all_append, h, Bool.and_true, List.all_eq_true]
  intro c hc
  rw [(List.mem_replicate.1 hc).2]; decide
theorem pv_zeros (z : Nat) (D : List UInt8) (v : Int) (h : ew D = v) (h0 : 0 ≤ v) (h1 : v ≤ 9223372036854775807) : pv (List.replicate z 48 ++ D) = v := by
  rw [pv_wnt, wnt_ew, ew_zeros, h]; unfold wrap64; omega

/-! ### memory -/
def bv (D : List UInt8) : List Value := D.map (fun b => Value.int .u8 (b.toNat : Int))
theorem bv_length (D : List UInt8) : (bv D).length = D.length := by simp [bv]
theorem bv_app (D E : List UInt8) : bv (D ++ E) = bv D ++ bv E := by simp [bv]
theorem bv_at (D : List UInt8) (j : Nat) (h : j < D.length) : (bv D)[j]? = some (.int .u8 (D[j].toNat : Int)) := by simp [bv, h]

theorem owns_set_other {w : World} {base : Nat} {e : TypeId} {size : Nat} {g n cap : Nat} {xs : List Value} (h : w.ownsRow base e size (.slice (some ⟨g, 0, none⟩) n cap) n xs) {a : Addr} (ha : a.block ≠ g) (u : Value) :
    (w.setCell a u).ownsRow base e size (.slice (some ⟨g, 0, none⟩) n cap) n xs := by
  obtain ⟨h1, h2⟩ := h
  refine ⟨h1, ?_⟩
  rcases h2 with h2 | ⟨g', cap', cur, hv, hg, hh, r⟩
  · exact Or.inl h2
  · cases hv
    exact Or.inr ⟨g, cap, cur, rfl, hg, by rw [Below.heap_setCell _ _ _ _ (fun e => ha e.symm)]; exact hh, r⟩

theorem store_dg {w : World} {B T : Nat} {e : TypeId} {pre : List Value} {D : List UInt8} {j : Nat} {X : Int} (h : w.ownsRow B e 1 (.slice (some ⟨T, 0, none⟩) 19 19) 19 (pre ++ bv D)) (hp : pre.length = j + 1) :
    (w.setCell ⟨T, j, none⟩ (.int .u8 (48 + X % 10))).ownsRow B e 1 (.slice (some ⟨T, 0, none⟩) 19 19) 19 (pre.take j ++ bv (dg X :: D)) := by
  have := (h.stored j (.int .u8 (48 + X % 10))).1
  have e2 : (pre ++ bv D).set j (.int .u8 (48 + X % 10)) = pre.take j ++ bv (dg X :: D) := by
    rw [List.set_append_left _ _ (by omega)]
    have h2 : bv (dg X :: D) = .int .u8 (48 + X % 10) :: bv D := by simp [bv, dg_nat]
    rw [h2, List.set_eq_take_append_cons_drop, if_pos (by omega), List.drop_eq_nil_of_le (by omega)]
    simp
  rw [e2] at this
  exact this

theorem app_at (pre : List Value) (D : List UInt8) (t : Nat) (h : t < D.length) : (pre ++ bv D)[pre.length + t]? = some (.int .u8 (D[t].toNat : Int)) := by
  rw [List.getElem?_append_right (by omega), Nat.add_sub_cancel_left, bv_at D t h]
theorem take_snoc' (D : List UInt8) (t : Nat) (h : t < D.length) : D.take (t + 1) = D.take t ++ [D[t]] := by
  rw [List.take_succ_eq_append_getElem h]
theorem bv_one (c : UInt8) : bv [c] = [.int .u8 (c.toNat : Int)] := rfl
end Go.Proofs.Qxb6604618a.Pd
