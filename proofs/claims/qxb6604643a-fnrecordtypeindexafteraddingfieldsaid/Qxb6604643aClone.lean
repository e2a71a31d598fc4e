import Derived.Test.Qxb6604643aSize
import Derived.Laws.CopyOwn
namespace Go.Proofs.Qxb6604643a
open Go.RowKit

theorem Try.inf9 : (Try.prog.info? 9).map (fun i => (i.zero, i.size, i.bytes)) = some (some (.string ByteArray.empty), 1, 16) := by kernel_rfl
theorem Try.siz9 : (Try.prog.info? 9).map (·.size) = some 1 := by kernel_rfl

def strv (ss : List ByteArray) : List Value := ss.map Value.string
theorem strv_length (ss : List ByteArray) : (strv ss).length = ss.length := by simp [strv]
theorem strv_at (ss : List ByteArray) (j : Nat) (h : j < ss.length) : (strv ss)[j]? = some (.string (ss.getD j ByteArray.empty)) := by simp [strv, List.getD, h]
theorem strv_one (ss : List ByteArray) : ∀ v ∈ strv ss, v.oneCell' = true := by
  intro v hv
  simp [strv] at hv
  obtain ⟨s, _, rfl⟩ := hv
  rfl

/-- a row of strings at the head of a block -/
def SBlock (w : World) (g : Nat) (ss : List ByteArray) : Prop := w.heap[g]? = some (.cells (strv ss).toArray 9 (0, 0))

theorem SBlock.row {w : World} {g : Nat} {ss : List ByteArray} (h : SBlock w g ss) : SRow w (some ⟨g, 0, none⟩) ss := by
  intro _
  refine ⟨g, 0, rfl, fun j hj => ?_⟩
  rw [Nat.zero_add, cell_of_row w g j _ 9 (0, 0) h]
  simpa using strv_at ss j hj
theorem SBlock.below {w w' : World} {g C : Nat} {ss : List ByteArray} (h : SBlock w g ss) (hb : Below C w w') (hg : g < C) : SBlock w' g ss := (hb.block g hg).trans h
theorem SBlock.lt {w : World} {g : Nat} {ss : List ByteArray} (h : SBlock w g ss) : g < w.heap.size := (Array.getElem?_eq_some_iff.1 h).1
theorem SRow.below {w w' : World} {a : Option Addr} {ss : List ByteArray} (h : SRow w a ss) (hb : Below w.heap.size w w') : SRow w' a ss := by
  intro hp
  obtain ⟨b, off, e, hc⟩ := h hp
  have hlt : b < w.heap.size := World.block_lt_of_cell? w _ (hc 0 hp)
  exact ⟨b, off, e, fun j hj => (hb.cell (by exact hlt)).trans (hc j hj)⟩
theorem SBlock.of_own {w : World} {B g n : Nat} {ss : List ByteArray} (h : w.ownsRow B 9 1 (.slice (some ⟨g, 0, none⟩) n n) n (strv ss)) : SBlock w g ss := by
  rcases h.2 with ⟨h0, _⟩ | ⟨g', cap, cur, hv, _, hg, _, _, hcs, ht⟩
  · cases h0
  · cases hv
    have e : cur = (strv ss).toArray := by
      rw [← ht, List.take_of_length_le (by simp; omega)]
    unfold SBlock
    rw [← e]; exact hg

/-- 'copy(dst, src)' of strings into a block of the call's own -/
theorem run_copy_strs (w : World) (dp sp : Option Addr) (L dLen dCap sCap g off : Nat) (ss cur : List ByteArray) (hL : ss.length = L) (hd : L ≤ dLen) (hg : SBlock w g cur) (hfit : off + L ≤ cur.length)
    (hdp : 0 < L → dp = some ⟨g, off, none⟩) (hrow : SRow w sp ss) :
    ∃ w1, (∀ ty, (Builtin.copy_ #[22, 22] ty #[.slice dp dLen dCap, .slice sp L sCap]).run Try.prog w = .ok (.int .i64 (L : Int)) w1) ∧ SBlock w1 g (splice cur off ss) ∧ ∀ B, B ≤ g → Below B w w1 := by
  have hmin : Nat.min L dLen = L := Nat.min_eq_left hd
  by_cases h0 : L = 0
  · have e : ss = [] := List.eq_nil_of_length_eq_zero (by omega)
    subst e
    refine ⟨w, fun ty => ?_, by simpa [splice] using hg, fun B _ => Below.refl _ _⟩
    have := run_copy_none (P := Try.prog) w 22 22 ty 9 dp sp dLen dCap L sCap Try.underlying22 Try.siz9 (by omega)
    rw [this, h0]; rfl
  · obtain ⟨b, o2, rfl, hc⟩ := hrow (by omega)
    have hd2 := hdp (by omega)
    subst hd2
    have run := fun ty => run_copy_row Try.prog w 22 22 ty 9 g off dLen dCap ⟨b, o2, none⟩ L sCap (strv cur).toArray 9 (strv ss) Try.underlying22 Try.siz9 hg (by rw [strv_length, hmin, hL])
      (fun j v hj => by
        have hj2 : j < ss.length := by have := (List.getElem?_eq_some_iff.1 hj).1; rwa [strv_length] at this
        rw [strv_at ss j hj2] at hj
        cases hj
        have e : (⟨b, o2, none⟩ : Addr).add j = ⟨b, o2 + j, none⟩ := by unfold Addr.add; split <;> simp_all
        rw [e]; exact hc j hj2)
      (by simp [strv_length]; omega) (strv_one ss)
    refine ⟨_, fun ty => (run ty).trans (by rw [strv_length, hL]; rfl), ?_, fun B hB => below_setRow (Below.refl _ _) hB _⟩
    unfold SBlock
    rw [setRow_heap w g _ _ 9 (0, 0) hg]
    simp [splice, strv, hL]

theorem made_strs (n : Nat) : (madeCells #[Value.string ByteArray.empty] n).toList = strv (List.replicate n ByteArray.empty) := by
  rw [toList_madeCells_one]; simp [strv]

set_option maxHeartbeats 400000 in
theorem clone_nil (w : World) :
    Calls Try.prog 7 #[.slice none 0 0] w fun e w' => e = .returned (.slice none 0 0) ∧ w = w' := by
  have hnil := fun wx => Lib.run_eql_slice_nil (P := Try.prog) wx 22 9 none 0 0 0 0 Try.underlying22
  go_enter Try.func7, Try.ntmps7
  go_wp2
  go_ret
  exact ⟨rfl, rfl⟩

set_option maxHeartbeats 400000 in
theorem clone_some (w : World) (x : Addr) (L c : Nat) (ss : List ByteArray) (hL : ss.length = L) (hm : L ≤ 65536) (hrow : SRow w (some x) ss) :
    Calls Try.prog 7 #[.slice (some x) L c] w fun e w' => e = .returned (.slice (some ⟨w.heap.size, 0, none⟩) L L) ∧ SBlock w' w.heap.size ss ∧ Below w.heap.size w w' := by
  obtain ⟨i0, hi, hz0, hz1, hz2⟩ := info_parts Try.inf9
  have hnil := fun wx => Lib.run_eql_slice_nil (P := Try.prog) wx 22 9 (some x) L c 0 0 Try.underlying22
  go_enter Try.func7, Try.ntmps7
  go_wp2_with (at_make; refine wpList_make_full _ rfl _ _ 22 rfl w.heap.size 9 i0 (.string ByteArray.empty) 1 Try.underlying22 hi hz0 hz1 _ _ _ _ L rfl rfl rfl rfl ?b2 ?b3 (Nat.le_refl _) ?_)
  case b2 => rw [hz2]; omega
  case b3 => unfold maxLen; omega
  intro w0 hown0 hgrow0
  have bel0 : Below w.heap.size w w0 := (Below.refl _ _).grown hgrow0 (Nat.le_refl _) (fun k h => by cases h)
  have hb0 : SBlock w0 w.heap.size (List.replicate L ByteArray.empty) := SBlock.of_own (by rw [← made_strs]; exact hown0)
  obtain ⟨w1, hrun, hb1, bel1⟩ := run_copy_strs w0 (some ⟨w.heap.size, 0, none⟩) (some x) L L L c w.heap.size 0 ss (List.replicate L ByteArray.empty) hL (Nat.le_refl _) hb0 (by simp) (fun _ => rfl) (hrow.below bel0)
  have e1 : splice (List.replicate L ByteArray.empty) 0 ss = ss := by simp [splice, hL]
  rw [e1] at hb1
  clear hown0 hgrow0 e1 hb0
  go_wp2
  go_ret
  exact ⟨rfl, hb1, bel0.trans (bel1 _ (Nat.le_refl _))⟩
end Go.Proofs.Qxb6604643a
