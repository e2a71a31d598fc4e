import Derived.Test.Qxb6003309aRows
import Derived.WalkKit
import Derived.WalkSpells
import Derived.WalkLawsBesides
import Derived.OpenShut
namespace Go.Proofs.Qxb6003309a
open Go.RowKit

theorem Try.inf5 : (Try.prog.info? 5).map (fun i => (i.zero, i.size, i.bytes)) = some (some (.int .u8 0), 1, 1) := by kernel_rfl
/-- numbers as cells -/
def Mm.nv (l : List Int) : List Value := l.map (Value.int .u8)
theorem Mm.nv_at (l : List Int) (j : Nat) (h : j < l.length) : (Mm.nv l)[j]? = some (.int .u8 (l.getD j 0)) := by
  simp [Mm.nv, List.getD, h]

/-- the elements of a slice of bytes: nil, or a row whose first len cells are zs -/
def Mm.Els (w : World) (a : Option Addr) (len : Nat) (zs : List Int) : Prop :=
  (a = none ∧ len = 0 ∧ zs = []) ∨ ∃ x, a = some x ∧ zs.length = len ∧ ∀ i, i < zs.length → w.cell? (x.add i) = some (.int .u8 (zs.getD i 0))

theorem set_take (xs zs : List Int) (k : Nat) (h : xs.take k = zs.take k) (hk : k < zs.length) (hx : k < xs.length) : (xs.set k (zs.getD k 0)).take (k + 1) = zs.take (k + 1) := by
  rw [List.take_succ_eq_append_getElem (by simpa using hx), List.take_succ_eq_append_getElem hk, List.take_set_of_le (Nat.le_refl k), h]
  simp [List.getD, hk]

theorem Mm.nv_set (xs : List Int) (k : Nat) (c : Int) : (Mm.nv xs).set k (.int .u8 c) = Mm.nv (xs.set k c) := by simp [Mm.nv, List.map_set]

set_option maxHeartbeats 400000 in
theorem clone_empty (w : World) (x : Addr) (c : Nat) :
    Calls Try.prog 10 #[.slice (some x) 0 c] w fun e w' => e = .returned (.slice (some ⟨w.heap.size, 0, none⟩) 0 0) ∧ w'.ownsRow w.heap.size 5 1 (.slice (some ⟨w.heap.size, 0, none⟩) 0 0) 0 [] ∧ Below w.heap.size w w' := by
  obtain ⟨i0, hi, hz0, hz1, hz2⟩ := info_parts Try.inf5
  have hnil := fun wx => Lib.run_eql_slice_nil (P := Try.prog) wx 23 5 (some x) 0 c 0 0 Try.underlying23
  go_enter Try.func10, Try.ntmps10
  go_wp2_with (at_make; refine wpList_make_full _ rfl _ _ 23 rfl w.heap.size 5 i0 (.int .u8 0) 1 Try.underlying23 hi hz0 hz1 _ _ _ _ 0 rfl rfl rfl rfl ?b2 ?b3 (Nat.le_refl _) ?_)
  case b2 => omega
  case b3 => unfold maxLen; omega
  intro w0 hown0 hgrow0
  go_wp2
  go_loopw [4] (fun i wr => i = .int .i64 0 ∧ wr = w0) (fun _ _ => 0)
  case atStart => exact ⟨rfl, rfl⟩
  case round =>
    obtain ⟨rfl, rfl⟩ := hrel
    go_wp2
    go_ret
    have e0 : (madeCells #[Value.int .u8 0] 0).toList = [] := by rw [toList_madeCells_one]; rfl
    rw [e0] at hown0
    exact ⟨rfl, hown0, (Below.refl _ _).grown hgrow0 (Nat.le_refl _) (fun k h => by cases h)⟩

set_option maxHeartbeats 400000 in
theorem clone_row (w : World) (b off len c : Nat) (zs : List Int) (hz : zs.length = len) (hl : len ≤ 1073741824) (hp : 0 < len) (hcell : ∀ j, j < zs.length → w.cell? ⟨b, off + j, none⟩ = some (.int .u8 (zs.getD j 0))) :
    Calls Try.prog 10 #[.slice (some ⟨b, off, none⟩) len c] w fun e w' => e = .returned (.slice (some ⟨w.heap.size, 0, none⟩) len len) ∧ w'.ownsRow w.heap.size 5 1 (.slice (some ⟨w.heap.size, 0, none⟩) len len) len (Mm.nv zs) ∧ Below w.heap.size w w' := by
  obtain ⟨i0, hi, hz0, hz1, hz2⟩ := info_parts Try.inf5
  have hb : b < w.heap.size := World.block_lt_of_cell? w _ (hcell 0 (by omega))
  have hnil := fun wx => Lib.run_eql_slice_nil (P := Try.prog) wx 23 5 (some ⟨b, off, none⟩) len c 0 0 Try.underlying23
  go_enter Try.func10, Try.ntmps10
  go_wp2_with (at_make; refine wpList_make_full _ rfl _ _ 23 rfl w.heap.size 5 i0 (.int .u8 0) 1 Try.underlying23 hi hz0 hz1 _ _ _ _ len rfl rfl rfl rfl ?b2 ?b3 (Nat.le_refl _) ?_)
  case b2 => rw [hz2]; omega
  case b3 => unfold maxLen; omega
  intro w0 hown0 hgrow0
  go_wp2
  go_loopw [4] (fun i wr => ∃ (k : Nat) (xs : List Int), k ≤ len ∧ i = .int .i64 k ∧ xs.length = len ∧ xs.take k = zs.take k ∧ wr.ownsRow w.heap.size 5 1 (.slice (some ⟨w.heap.size, 0, none⟩) len len) len (Mm.nv xs) ∧ Below w.heap.size w wr) (fun i _ => len - (intOf i).toNat)
  case atStart =>
    refine ⟨0, List.replicate len 0, Nat.zero_le _, rfl, by simp, rfl, ?_, (Below.refl _ _).grown hgrow0 (Nat.le_refl _) (fun k h => by cases h)⟩
    have e : (madeCells #[Value.int .u8 0] len).toList = Mm.nv (List.replicate len 0) := by
      rw [toList_madeCells_one]; simp [Mm.nv]
    rw [← e]; exact hown0
  case round =>
    obtain ⟨k, xs, hk, rfl, hxl, htk, hown, hnx⟩ := hrel
    have HT : Hid (xs.take k = zs.take k) := htk
    have HX : Hid (xs.length = len) := hxl
    have HZ : Hid (zs.length = len) := hz
    by_cases hlt : k < len
    · have hs : wr.cell? ⟨b, off + k, none⟩ = some (.int .u8 (zs.getD k 0)) := (hnx.cell (by exact hb)).trans (hcell k (by omega))
      have hd : wr.cell? ⟨w.heap.size, k, none⟩ = some (.int .u8 (xs.getD k 0)) := (hown.cellAt k (by omega)).trans (Mm.nv_at xs k (by omega))
      have hf := hown.frozenAt k
      clear htk hxl hz
      go_wp2
      go_roundw
      case rel =>
        have R := (hown.stored k (.int .u8 (zs.getD k 0))).1
        rw [Mm.nv_set] at R
        exact ⟨k + 1, xs.set k (zs.getD k 0), by omega, by go_num, by simp; exact HX.out, set_take xs zs k HT.out (by rw [HZ.out]; exact hlt) (by rw [HX.out]; exact hlt), R, hnx.setCell (Nat.le_refl _) _⟩
      case measure => simp [intOf]; omega
    · go_wp2
      go_ret
      have e : xs = zs := by
        have h := HT.out
        rw [List.take_of_length_le (by omega), List.take_of_length_le (by omega)] at h
        exact h
      exact ⟨rfl, by rw [← e]; exact hown, hnx⟩

set_option maxHeartbeats 400000 in
theorem clone_nil (w : World) :
    Calls Try.prog 10 #[.slice none 0 0] w fun e w' => e = .returned (.slice none 0 0) ∧ w' = w := by
  have hnil := fun wx => Lib.run_eql_slice_nil (P := Try.prog) wx 23 5 none 0 0 0 0 Try.underlying23
  go_enter Try.func10, Try.ntmps10
  go_wp2
  go_ret
  exact ⟨rfl, rfl⟩

/-- THE COPY: nil for nil, else a row of its own at the next block. -/
theorem clone_any (w : World) (a : Option Addr) (len c : Nat) (zs : List Int) (hl : len ≤ 1073741824) (hc : a = none → c = 0) (h : Mm.Els w a len zs) :
    Calls Try.prog 10 #[.slice a len c] w fun e w' => ∃ ao cp, e = .returned (.slice ao len cp) ∧ ((a = none ∧ ao = none ∧ cp = 0) ∨ (∃ x, a = some x) ∧ ao = some ⟨w.heap.size, 0, none⟩ ∧ cp = len) ∧
      w'.ownsRow w.heap.size 5 1 (.slice ao len cp) len (Mm.nv zs) ∧ Below w.heap.size w w' := by
  rcases h with ⟨rfl, rfl, rfl⟩ | ⟨x, rfl, hz, hcell⟩
  · rw [hc rfl]
    refine (clone_nil w).mono ?_
    rintro e w' ⟨rfl, rfl⟩
    exact ⟨none, 0, rfl, Or.inl ⟨rfl, rfl, rfl⟩, World.ownsRow_nil _ _ _ _, Below.refl _ _⟩
  · by_cases hp : 0 < len
    · obtain ⟨b, off, rfl, hc2⟩ := ints_at hcell (by omega)
      refine (clone_row w b off len c zs hz hl hp hc2).mono ?_
      rintro e w' ⟨rfl, h1, h2⟩
      exact ⟨_, _, rfl, Or.inr ⟨⟨_, rfl⟩, rfl, rfl⟩, h1, h2⟩
    · have e0 : len = 0 := by omega
      have e1 : zs = [] := List.eq_nil_of_length_eq_zero (by omega)
      subst e0 e1
      refine (clone_empty w x c).mono ?_
      rintro e w' ⟨rfl, h1, h2⟩
      exact ⟨_, _, rfl, Or.inr ⟨⟨_, rfl⟩, rfl, rfl⟩, h1, h2⟩
end Go.Proofs.Qxb6003309a
