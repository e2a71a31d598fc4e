import Derived.Test.Qxb6604643aClone
namespace Go.Proofs.Qxb6604643a
open Go.RowKit

/-- a field with a name, all else zero -/
def fld (s : ByteArray) : List Value := [.string s, .int .u8 0, .int .u8 0, .pointer none, .pointer none, .bool false, .bool false]
def rowOf : List ByteArray → List Value
  | [] => []
  | s :: l => fld s ++ rowOf l
theorem rowOf_length : ∀ l : List ByteArray, (rowOf l).length = l.length * 7
  | [] => rfl
  | s :: l => by rw [rowOf, List.length_append, rowOf_length l, List.length_cons]; show 7 + l.length * 7 = _; omega
theorem rowOf_at : ∀ (l : List ByteArray) (k j : Nat), k < l.length → j < 7 → (rowOf l)[k * 7 + j]? = (fld (l.getD k ByteArray.empty))[j]?
  | [], k, j, h, _ => by simp at h
  | s :: l, 0, j, _, hj => by
    rw [rowOf, Nat.zero_mul, Nat.zero_add, List.getElem?_append_left (by show j < 7; exact hj)]; rfl
  | s :: l, k + 1, j, h, hj => by
    rw [rowOf, List.getElem?_append_right (by show 7 ≤ _; omega)]
    have e : (k + 1) * 7 + j - (fld s).length = k * 7 + j := by show (k + 1) * 7 + j - 7 = _; omega
    rw [e, rowOf_at l k j (by simpa using h) hj]
    simp
theorem rowOf_set : ∀ (l : List ByteArray) (k : Nat) (s : ByteArray), k < l.length → (rowOf l).set (k * 7) (.string s) = rowOf (l.set k s)
  | [], k, s, h => by simp at h
  | t :: l, 0, s, _ => by rw [rowOf, Nat.zero_mul]; rfl
  | t :: l, k + 1, s, h => by
    rw [rowOf, List.set_append_right _ _ (by show 7 ≤ _; omega)]
    have e : (k + 1) * 7 - (fld t).length = k * 7 := by show (k + 1) * 7 - 7 = _; omega
    rw [e, rowOf_set l k s (by simpa using h)]
    rfl

theorem Try.inf35 : (Try.prog.info? 35).map (fun i => (i.zero, i.size, i.bytes)) = some (some (.agg #[.string ByteArray.empty, .int .u8 0, .int .u8 0, .pointer none, .pointer none, .bool false, .bool false]), 7, 48) := by kernel_rfl

theorem rep_at (n k : Nat) (h : k < n) : (List.replicate n ByteArray.empty).getD k ByteArray.empty = ByteArray.empty := by simp [List.getD, h]

theorem made_fld (n : Nat) : (madeCells #[.string ByteArray.empty, .int .u8 0, .int .u8 0, .pointer none, .pointer none, .bool false, .bool false] (n * 7)).toList = rowOf (List.replicate n ByteArray.empty) := by
  apply List.ext_getElem?
  intro i
  by_cases h : i < n * 7
  · have hk : i / 7 < n := by omega
    have e : i = i / 7 * 7 + i % 7 := by omega
    have hr := rowOf_at (List.replicate n ByteArray.empty) (i / 7) (i % 7) (by simpa using hk) (by omega)
    rw [← e, rep_at n _ hk] at hr
    rw [hr]
    have hj : i % 7 < 7 := by omega
    simp only [madeCells, Array.toList_map, Array.toList_range, List.getElem?_map, List.getElem?_range h, Option.map_some]
    show some (#[Value.string ByteArray.empty, .int .u8 0, .int .u8 0, .pointer none, .pointer none, .bool false, .bool false][i % 7]!) = _
    generalize i % 7 = j at hj
    match j, hj with
    | 0, _ => rfl
    | 1, _ => rfl
    | 2, _ => rfl
    | 3, _ => rfl
    | 4, _ => rfl
    | 5, _ => rfl
    | 6, _ => rfl
  · rw [List.getElem?_eq_none (by simp [size_madeCells]; omega), List.getElem?_eq_none (by rw [rowOf_length]; simp; omega)]

theorem set_take (xs ss : List ByteArray) (k : Nat) (h : xs.take k = ss.take k) (hk : k < ss.length) (hx : k < xs.length) : (xs.set k (ss.getD k ByteArray.empty)).take (k + 1) = ss.take (k + 1) := by
  rw [List.take_succ_eq_append_getElem (by simpa using hx), List.take_succ_eq_append_getElem hk, List.take_set_of_le (Nat.le_refl k), h]
  simp [List.getD, hk]

set_option maxHeartbeats 400000 in
theorem rec_any (w : World) (rn : ByteArray) (a : Option Addr) (L c : Nat) (ss : List ByteArray) (hL : ss.length = L) (hm : L ≤ 65537) (hrow : SRow w a ss) :
    Calls Try.prog 8 #[.string rn, .slice a L c] w fun e w' => ∃ R, e = .returned (.pointer (some ⟨R, 0, none⟩)) ∧ w'.cell? ⟨R, 2, none⟩ = some (.slice (some ⟨w.heap.size, 0, none⟩) L L) ∧
      w'.ownsRow w.heap.size 35 7 (.slice (some ⟨w.heap.size, 0, none⟩) L L) L (rowOf ss) ∧ Below w.heap.size w w' := by
  obtain ⟨i0, hi, hz0, hz1, hz2⟩ := info_parts Try.inf35
  go_enter Try.func8, Try.ntmps8
  go_wp2_with (at_make; refine wpList_make_full _ rfl _ _ 28 rfl w.heap.size 35 i0 _ 7 Try.underlying28 hi hz0 hz1 _ _ _ _ L rfl rfl rfl rfl ?b2 ?b3 (Nat.le_refl _) ?_)
  case b2 => rw [hz2]; omega
  case b3 => unfold maxLen; omega
  intro w0 hown0 hgrow0
  go_wp2
  go_loopw [6] (fun i wr => ∃ (k : Nat) (xs : List ByteArray), k ≤ L ∧ i = .int .i64 k ∧ xs.length = L ∧ xs.take k = ss.take k ∧ wr.ownsRow w.heap.size 35 7 (.slice (some ⟨w.heap.size, 0, none⟩) L L) L (rowOf xs) ∧ Below w.heap.size w wr) (fun i _ => L - (intOf i).toNat)
  case atStart =>
    refine ⟨0, List.replicate L ByteArray.empty, Nat.zero_le _, rfl, by simp, rfl, ?_, (Below.refl _ _).grown hgrow0 (Nat.le_refl _) (fun k h => by cases h)⟩
    rw [← made_fld]; exact hown0
  case round =>
    obtain ⟨k, xs, hk, rfl, hxl, htk, hown, hnx⟩ := hrel
    have HT : Hid (xs.take k = ss.take k) := htk
    have HX : Hid (xs.length = L) := hxl
    have HZ : Hid (ss.length = L) := hL
    by_cases hlt : k < L
    · obtain ⟨b, off, rfl, hcell⟩ := hrow (by omega)
      have hb : b < w.heap.size := World.block_lt_of_cell? w _ (hcell 0 (by omega))
      have hs : wr.cell? ⟨b, off + k, none⟩ = some (.string (ss.getD k ByteArray.empty)) := (hnx.cell (by exact hb)).trans (hcell k (by omega))
      have hd : wr.cell? ⟨w.heap.size, k * 7, none⟩ = some (.string (xs.getD k ByteArray.empty)) := (hown.cellAt (k * 7) (by omega)).trans (rowOf_at xs k 0 (by omega) (by omega))
      have hf := hown.frozenAt (k * 7)
      clear htk hxl hL hcell
      go_wp2
      go_roundw
      case rel =>
        have R := (hown.stored (k * 7) (.string (ss.getD k ByteArray.empty))).1
        rw [rowOf_set xs k _ (by rw [HX.out]; exact hlt)] at R
        exact ⟨k + 1, xs.set k (ss.getD k ByteArray.empty), by omega, by go_num, by simp; exact HX.out, set_take xs ss k HT.out (by rw [HZ.out]; exact hlt) (by rw [HX.out]; exact hlt), R, hnx.setCell (Nat.le_refl _) _⟩
      case measure => simp [intOf]; omega
    · have e : xs = ss := by
        have h := HT.out
        rw [List.take_of_length_le (by omega), List.take_of_length_le (by omega)] at h
        exact h
      rw [e] at hown
      go_wp2
      go_ret
      refine ⟨wr.heap.size, rfl, ?_, hown.alloc _, hnx.alloc hnx.size _⟩
      rw [World.cell?_alloc_new]; rfl

theorem seq_true {s t : ByteArray} (h : (s.toList == t.toList) = true) : s = t := by
  have e : s.toList = t.toList := by simpa using h
  rw [ByteArray.toList_eq, ByteArray.toList_eq] at e
  exact Go.WideShapes.bytes_inj e
theorem seq_false {s t : ByteArray} (h : (s.toList == t.toList) = false) : s ≠ t := by
  rintro rfl
  simp at h
theorem seq_ne {s t : ByteArray} (h : s ≠ t) : (s.toList == t.toList) = false := by
  cases e : (s.toList == t.toList) with
  | false => rfl
  | true => exact absurd (seq_true e) h

/-- WHERE a name stands first, or -1 -/
def Idx (ss : List ByteArray) (nm : ByteArray) (r : Int) : Prop :=
  (r = -1 ∧ ∀ i, i < ss.length → ss.getD i ByteArray.empty ≠ nm) ∨
  ∃ k : Nat, k < ss.length ∧ r = (k : Int) ∧ ss.getD k ByteArray.empty = nm ∧ ∀ i, i < k → ss.getD i ByteArray.empty ≠ nm

set_option maxHeartbeats 400000 in
theorem index_any (w : World) (R F L : Nat) (nm : ByteArray) (ss : List ByteArray) (hL : ss.length = L) (hm : L ≤ 65537) (hR : w.cell? ⟨R, 2, none⟩ = some (.slice (some ⟨F, 0, none⟩) L L))
    (hown : w.ownsRow 0 35 7 (.slice (some ⟨F, 0, none⟩) L L) L (rowOf ss)) :
    Calls Try.prog 9 #[.pointer (some ⟨R, 0, none⟩), .string nm] w fun e w' => ∃ r, e = .returned (.int .i64 r) ∧ Idx ss nm r ∧ Below w.heap.size w w' := by
  have hF := (hown.lt _ rfl).2
  go_enter Try.func9, Try.ntmps9
  go_wp2
  go_loopw [12] (fun i wr => ∃ k : Nat, k ≤ L ∧ i = .int .i64 k ∧ (∀ i, i < k → ss.getD i ByteArray.empty ≠ nm) ∧ Below w.heap.size w wr) (fun i _ => L - (intOf i).toNat)
  case atStart => exact ⟨0, Nat.zero_le _, rfl, fun i h => absurd h (by omega), Below.refl _ _⟩
  case round =>
    obtain ⟨k, hk, rfl, hne, hnx⟩ := hrel
    have HN := (show Hid _ from hne)
    clear hne
    by_cases hlt : k < L
    · have cell : ∀ j, j < 7 → wr.cell? ⟨F, k * 7 + j, none⟩ = (fld (ss.getD k ByteArray.empty))[j]? := fun j hj =>
        (hnx.cell (p := ⟨F, k * 7 + j, none⟩) hF).trans ((hown.cellAt (k * 7 + j) (by omega)).trans (rowOf_at ss k j (by omega) hj))
      obtain ⟨s, hs⟩ : ∃ s, s = ss.getD k ByteArray.empty := ⟨_, rfl⟩
      rw [← hs] at cell
      have HS := (show Hid _ from hs)
      have q0 : wr.cell? ⟨F, k * 7, none⟩ = some (.string s) := cell 0 (by omega)
      have q1 : wr.cell? ⟨F, k * 7 + 1, none⟩ = some (.int .u8 0) := cell 1 (by omega)
      have q2 : wr.cell? ⟨F, k * 7 + 2, none⟩ = some (.int .u8 0) := cell 2 (by omega)
      have q3 : wr.cell? ⟨F, k * 7 + 3, none⟩ = some (.pointer none) := cell 3 (by omega)
      have q4 : wr.cell? ⟨F, k * 7 + 4, none⟩ = some (.pointer none) := cell 4 (by omega)
      have q5 : wr.cell? ⟨F, k * 7 + 5, none⟩ = some (.bool false) := cell 5 (by omega)
      have q6 : wr.cell? ⟨F, k * 7 + 6, none⟩ = some (.bool false) := cell 6 (by omega)
      clear cell hs hown hR
      go_wp2
      · go_ret
        have e : s = nm := seq_true (by assumption)
        exact ⟨k, rfl, Or.inr ⟨k, by omega, rfl, HS.out.symm.trans e, HN.out⟩, hnx.alloc hnx.size _⟩
      · have hne : s ≠ nm := seq_false (by assumption)
        go_roundw
        case rel =>
          refine ⟨k + 1, by omega, by go_num, fun i hi => ?_, hnx.alloc hnx.size _⟩
          by_cases e : i = k
          · rw [e, ← HS.out]; exact hne
          · exact HN.out i (by omega)
        case measure => simp [intOf]; omega
    · go_wp2
      go_ret
      exact ⟨-1, rfl, Or.inl ⟨rfl, fun i hi => HN.out i (by omega)⟩, hnx⟩
end Go.Proofs.Qxb6604643a
