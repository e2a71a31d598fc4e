import Derived.Test.Qxb6604618aMem
import Derived.RegionTactic
import Derived.Deep.RegionWith
namespace Go.Proofs.Qxb6604618a
open Go.RowKit
namespace Mm

/-- of the blocks of w0 only E and s0 may have turned -/
structure Fr (w0 : World) (E : Nat) (s0 : Option Nat) (w : World) : Prop where
  os : w.os = w0.os
  tape : w.tape = w0.tape
  output : w.output = w0.output
  size : w0.heap.size ≤ w.heap.size
  block : ∀ k, k < w0.heap.size → k ≠ E → some k ≠ s0 → w.heap[k]? = w0.heap[k]?

/-- THE ENCODER AT BLOCK E HOLDS THE BYTES ns -/
structure Enc (w0 : World) (E : Nat) (s0 : Option Nat) (w : World) (v : Value) (ns : List Int) : Prop where
  cell : w.cell? ⟨E, 0, none⟩ = some v
  frozen : w.frozen? ⟨E, 0, none⟩ = false
  own : w.ownsRow 0 5 1 v ns.length (nv ns)
  lt : E < w0.heap.size
  ne : v.ownBlock ≠ some E
  wh : v.ownBlock = s0 ∨ ∃ g, v.ownBlock = some g ∧ w0.heap.size ≤ g
  fr : Fr w0 E s0 w

theorem own_set {w : World} {v : Value} {n : Nat} {xs : List Value} (h : w.ownsRow 0 5 1 v n xs) {a : Addr} (ha : v.ownBlock ≠ some a.block) (u : Value) : (w.setCell a u).ownsRow 0 5 1 v n xs := by
  obtain ⟨h1, h2⟩ := h
  refine ⟨h1, ?_⟩
  rcases h2 with h2 | ⟨g, cap, cur, rfl, hg, hh, r⟩
  · exact Or.inl h2
  · refine Or.inr ⟨g, cap, cur, rfl, hg, ?_, r⟩
    rw [Below.heap_setCell _ _ _ _ (fun e => ha (by simp [Value.ownBlock, e]))]
    exact hh

/-- ONE STEP: the row grew (in a world that is w with draws and new blocks), and the encoder's cell was written. -/
theorem Enc.step {w0 w w1 : World} {E : Nat} {s0 : Option Nat} {v v' : Value} {ns new : List Int} (h : Enc w0 E s0 w v ns) (hg : w.grownBy w1 v.ownBlock) (hown : w1.ownsRow 0 5 1 v' (ns.length + new.length) (nv ns ++ nv new))
    (hw : v'.ownBlock = v.ownBlock ∨ ∃ g, v'.ownBlock = some g ∧ w.heap.size ≤ g) : Enc w0 E s0 (w1.setCell ⟨E, 0, none⟩ v') v' (ns ++ new) := by
  have hE : E < w.heap.size := Nat.lt_of_lt_of_le h.lt h.fr.size
  have hb : w1.heap[E]? = w.heap[E]? := hg.block E hE (fun e => h.ne e.symm)
  have hc : w1.cell? ⟨E, 0, none⟩ = some v := (World.cell?_of_block (a := ⟨E, 0, none⟩) hb).trans h.cell
  have hne : v'.ownBlock ≠ some E := by
    rcases hw with hw | ⟨g, hw, hl⟩
    · rw [hw]; exact h.ne
    · rw [hw]; intro e; cases e; omega
  refine ⟨World.cell?_setCell_same w1 _ _ hc, ?_, ?_, h.lt, hne, ?_, ?_⟩
  · rw [World.frozen?_setCell]; exact (World.frozen?_of_block (a := ⟨E, 0, none⟩) hb).trans h.frozen
  · rw [List.length_append, nv_app]; exact own_set hown hne _
  · rcases hw with hw | ⟨g, hw, hl⟩
    · rw [hw]; exact h.wh
    · exact Or.inr ⟨g, hw, Nat.le_trans h.fr.size hl⟩
  · refine ⟨hg.os.trans h.fr.os, hg.tape.trans h.fr.tape, hg.output.trans h.fr.output, ?_, fun k hk hkE hks => ?_⟩
    · have := hg.size; have := h.fr.size; simp; omega
    · rw [Below.heap_setCell _ _ _ _ hkE, hg.block k (Nat.lt_of_lt_of_le hk h.fr.size) ?_, h.fr.block k hk hkE hks]
      rcases h.wh with e | ⟨g, e, hl⟩
      · rw [e]; exact hks
      · rw [e]; intro e2; cases e2; omega
end Mm

theorem grown_drew {w w' : World} {row : Option Nat} (h : w.drew.grownBy w' row) : w.grownBy w' row := ⟨h.os, h.tape, h.output, h.size, h.block⟩

theorem Mm.Enc.there {w0 w w1 : World} {E : Nat} {s0 : Option Nat} {v : Value} {ns : List Int} (h : Mm.Enc w0 E s0 w v ns) (hg : w.grownBy w1 v.ownBlock) : w1.cell? ⟨E, 0, none⟩ = some v ∧ w1.frozen? ⟨E, 0, none⟩ = false := by
  have hE : E < w.heap.size := Nat.lt_of_lt_of_le h.lt h.fr.size
  have hb : w1.heap[E]? = w.heap[E]? := hg.block E hE (fun e => h.ne e.symm)
  exact ⟨(World.cell?_of_block (a := ⟨E, 0, none⟩) hb).trans h.cell, (World.frozen?_of_block (a := ⟨E, 0, none⟩) hb).trans h.frozen⟩

set_option maxHeartbeats 400000 in
theorem int_any (w0 w : World) (E : Nat) (s0 : Option Nat) (v : Value) (ns : List Int) (a : Int) (u : Nat) (hu : u < 4294967296) (hau : IntKind.u32.wrap a = u) (h : Mm.Enc w0 E s0 w v ns) (hn : ns.length ≤ 1073740000) :
    Calls Try.prog 16 #[.pointer (some ⟨E, 0, none⟩), .int .i32 a] w fun e w' => e = .returned (.tuple #[]) ∧ ∃ v', Mm.Enc w0 E s0 w' v' (ns ++ Mm.be32 u) := by
  have hc := h.cell
  have hf := h.frozen
  go_enter Try.func16, Try.ntmps16
  go_region_with (go_at_call 20; refine (app32_any ns.length u hu v (Mm.nv ns) _ ?_ hn).mono ?_; exact h.own.drew; rintro e w' ⟨v', ao, cp, hv', rfl, hown', hgrow, hw⟩; obtain ⟨hc', hf'⟩ := h.there (grown_drew hgrow))
  all_goals go_end0
  all_goals exact ⟨rfl, v', by rw [← hv']; exact h.step (grown_drew hgrow) hown' hw⟩

set_option maxHeartbeats 400000 in
theorem long_any (w0 w : World) (E : Nat) (s0 : Option Nat) (v : Value) (ns : List Int) (a : Int) (u : Nat) (hu : u < 18446744073709551616) (hau : IntKind.u64.wrap a = u) (h : Mm.Enc w0 E s0 w v ns) (hn : ns.length ≤ 1073740000) :
    Calls Try.prog 17 #[.pointer (some ⟨E, 0, none⟩), .int .i64 a] w fun e w' => e = .returned (.tuple #[]) ∧ ∃ v', Mm.Enc w0 E s0 w' v' (ns ++ Mm.be64 u) := by
  have hc := h.cell
  have hf := h.frozen
  go_enter Try.func17, Try.ntmps17
  go_region_with (go_at_call 21; refine (app64_any ns.length u hu v (Mm.nv ns) _ ?_ hn).mono ?_; exact h.own.drew; rintro e w' ⟨v', ao, cp, hv', rfl, hown', hgrow, hw⟩; obtain ⟨hc', hf'⟩ := h.there (grown_drew hgrow))
  all_goals go_end0
  all_goals exact ⟨rfl, v', by rw [← hv']; exact h.step (grown_drew hgrow) hown' hw⟩

theorem Mm.Fr.cells {w0 w : World} {E : Nat} {s0 : Option Nat} (h : Mm.Fr w0 E s0 w) {a : Addr} (h1 : a.block < w0.heap.size) (h2 : a.block ≠ E) (h3 : some a.block ≠ s0) : w.cell? a = w0.cell? a :=
  World.cell?_of_block (h.block a.block h1 h2 h3)
theorem add_block (g j : Nat) : ((⟨g, 0, none⟩ : Addr).add j).block = g := by unfold Addr.add; split <;> rfl
theorem u32_wrap (a : Int) : IntKind.u32.wrap a = a % 4294967296 := by simp [IntKind.wrap, IntKind.bits, IntKind.signed]
theorem u64_wrap (a : Int) : IntKind.u64.wrap a = a % 18446744073709551616 := by simp [IntKind.wrap, IntKind.bits, IntKind.signed]
theorem u32_small (m : Nat) (h : m < 4294967296) : IntKind.u32.wrap (m : Int) = (m : Int) := by rw [u32_wrap]; omega

/-- a bool as the encoder writes it -/
def bit (b : Bool) : Int := if b then 1 else 0

set_option maxHeartbeats 400000 in
theorem bool_any (w0 w : World) (E : Nat) (s0 : Option Nat) (v : Value) (ns : List Int) (b : Bool) (h : Mm.Enc w0 E s0 w v ns) (hn : ns.length ≤ 1073740000) :
    Calls Try.prog 19 #[.pointer (some ⟨E, 0, none⟩), .bool b] w fun e w' => e = .returned (.tuple #[]) ∧ ∃ v', Mm.Enc w0 E s0 w' v' (ns ++ [bit b]) := by
  have hc := h.cell
  have hf := h.frozen
  obtain ⟨i0, hi, hz0, hz1, hz2⟩ := info_parts Try.inf5
  cases b
  · go_enter Try.func19, Try.ntmps19
    go_wp2_with (at_builtin; refine wpList_append_own_at _ rfl _ _ 25 rfl 0 5 i0 (.int .u8 0) 1 1 Try.underlying25 hi hz0 hz1 hz2 rfl (by decide) v ns.length (Mm.nv ns) rfl (h.own.alloc _) _ 1 1 [.int .u8 0] rfl rfl ?c1 ?c2 ?c3 ?c4 (Nat.zero_le _) ?_)
    case c1 => exact cell_one_new _ _ _
    case c2 => exact Mm.nv_one [0]
    case c3 => unfold maxLen; omega
    case c4 => omega
    intro v' w1 hown' hgrow _ hw
    obtain ⟨hc', hf'⟩ := h.there (grown_alloc_front hgrow)
    obtain ⟨ao, cp, hv'⟩ := own_shape hown'
    rw [hv']
    go_wp2
    go_end0
    exact ⟨rfl, v', by rw [← hv']; exact h.step (grown_alloc_front hgrow) hown' (own_at_size hw (by simp))⟩
  · go_enter Try.func19, Try.ntmps19
    go_wp2_with (at_builtin; refine wpList_append_own_at _ rfl _ _ 25 rfl 0 5 i0 (.int .u8 0) 1 1 Try.underlying25 hi hz0 hz1 hz2 rfl (by decide) v ns.length (Mm.nv ns) rfl (h.own.alloc _) _ 1 1 [.int .u8 1] rfl rfl ?c1 ?c2 ?c3 ?c4 (Nat.zero_le _) ?_)
    case c1 => exact cell_one_new _ _ _
    case c2 => exact Mm.nv_one [1]
    case c3 => unfold maxLen; omega
    case c4 => omega
    intro v' w1 hown' hgrow _ hw
    obtain ⟨hc', hf'⟩ := h.there (grown_alloc_front hgrow)
    obtain ⟨ao, cp, hv'⟩ := own_shape hown'
    rw [hv']
    go_wp2
    go_end0
    exact ⟨rfl, v', by rw [← hv']; exact h.step (grown_alloc_front hgrow) hown' (own_at_size hw (by simp))⟩

set_option maxHeartbeats 400000 in
theorem buf_nil (w0 w : World) (E : Nat) (s0 : Option Nat) (v : Value) (ns : List Int) (h : Mm.Enc w0 E s0 w v ns) (hn : ns.length ≤ 1073740000) :
    Calls Try.prog 18 #[.pointer (some ⟨E, 0, none⟩), .slice none 0 0] w fun e w' => e = .returned (.tuple #[]) ∧ ∃ v', Mm.Enc w0 E s0 w' v' (ns ++ Mm.be32 4294967295) := by
  have hnil := fun wx => Lib.run_eql_slice_nil (P := Try.prog) wx 25 5 none 0 0 0 0 Try.underlying25
  go_enter Try.func18, Try.ntmps18
  go_wp2_with (go_at_call 16; refine (int_any w0 _ E s0 v ns (-1) 4294967295 (by decide) (by decide) h hn).mono ?_; rintro e w' ⟨rfl, v', h'⟩)
  exact bodyPost_ret (results_none rfl _ _ _) rfl ⟨rfl, v', h'⟩

set_option maxHeartbeats 400000 in
theorem buf_some (w0 w : World) (E : Nat) (s0 : Option Nat) (v : Value) (ns ps : List Int) (g m c : Nat) (hm : ps.length = m) (hm2 : m ≤ 1048576) (hg : g < w0.heap.size) (hgE : g ≠ E) (hgs : some g ≠ s0)
    (hcell : ∀ j u, (Mm.nv ps)[j]? = some u → w0.cell? ((⟨g, 0, none⟩ : Addr).add j) = some u) (h : Mm.Enc w0 E s0 w v ns) (hn : ns.length ≤ 1070000000) :
    Calls Try.prog 18 #[.pointer (some ⟨E, 0, none⟩), .slice (some ⟨g, 0, none⟩) m c] w fun e w' => e = .returned (.tuple #[]) ∧ ∃ v', Mm.Enc w0 E s0 w' v' ((ns ++ Mm.be32 m) ++ ps) := by
  have hnil := fun wx => Lib.run_eql_slice_nil (P := Try.prog) wx 25 5 (some ⟨g, 0, none⟩) m c 0 0 Try.underlying25
  obtain ⟨i0, hi, hz0, hz1, hz2⟩ := info_parts Try.inf5
  go_enter Try.func18, Try.ntmps18
  go_wp2_with (first | (at_builtin; refine wpList_append_own_at _ rfl _ _ 25 rfl 0 5 i0 (.int .u8 0) 1 1 Try.underlying25 hi hz0 hz1 hz2 rfl (by decide) v' (ns ++ Mm.be32 m).length (Mm.nv (ns ++ Mm.be32 m)) rfl h'.own _ m c (Mm.nv ps) rfl ?d0 ?d1 (Mm.nv_one _) ?d3 ?d4 (Nat.zero_le _) ?_) | (go_at_call 16; refine (int_any w0 _ E s0 v ns (m : Int) m (by omega) (u32_small m (by omega)) h (by omega)).mono ?_; rintro e w' ⟨rfl, v', h'⟩; have hc' := h'.cell; have hf' := h'.frozen))
  case d0 => rw [Mm.nv_length, Nat.mul_one]; exact hm
  case d1 => exact fun j u hj => (h'.fr.cells (a := (⟨g, 0, none⟩ : Addr).add j) (by rw [add_block]; exact hg) (by rw [add_block]; exact hgE) (by rw [add_block]; exact hgs)).trans (hcell j u hj)
  case d3 => unfold maxLen; simp [Mm.be32]; omega
  case d4 => simp [Mm.be32]; omega
  intro v2 w2 hown2 hgrow2 _ hw2
  obtain ⟨hc2, hf2⟩ := h'.there hgrow2
  obtain ⟨ao, cp, hv2⟩ := own_shape hown2
  rw [hv2]
  go_wp2
  go_end0
  refine ⟨rfl, v2, ?_⟩
  rw [← hv2]
  refine h'.step hgrow2 ?_ (own_at_size hw2 (Nat.le_refl _))
  rw [hm, List.length_append]
  exact hown2
end Go.Proofs.Qxb6604618a
