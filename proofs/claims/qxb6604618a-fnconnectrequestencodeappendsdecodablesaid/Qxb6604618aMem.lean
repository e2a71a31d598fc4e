import Derived.Test.Qxb6604618aRows
import Derived.WalkKit
import Derived.WalkSpells
import Derived.WalkLawsBesides
import Derived.Maps.AppendAt
namespace Go.Proofs.Qxb6604618a
open Go.RowKit

theorem Try.inf5 : (Try.prog.info? 5).map (fun i => (i.zero, i.size, i.bytes)) = some (some (.int .u8 0), 1, 1) := by kernel_rfl

namespace Mm
/-- numbers as cells -/
def nv (l : List Int) : List Value := l.map (Value.int .u8)
theorem nv_length (l : List Int) : (nv l).length = l.length := by simp [nv]
theorem nv_app (a b : List Int) : nv (a ++ b) = nv a ++ nv b := by simp [nv]
theorem nv_one (l : List Int) : ∀ u ∈ nv l, u.oneCell' = true := ints_oneCell .u8 l
theorem nv_at (l : List Int) (j : Nat) (h : j < l.length) : (nv l)[j]? = some (.int .u8 (l.getD j 0)) := by
  simp [nv, List.getD, h]

/-! ### bytes of a number, the greatest first -/
def be32 (n : Int) : List Int := [n / 16777216, n / 65536 % 256, n / 256 % 256, n % 256]
def be64 (n : Int) : List Int := [n / 72057594037927936, n / 281474976710656 % 256, n / 1099511627776 % 256, n / 4294967296 % 256, n / 16777216 % 256, n / 65536 % 256, n / 256 % 256, n % 256]
end Mm

theorem cells_new4 (w : World) (t : TypeId) (B : Nat) (hB : B = w.heap.size) (a b c d : Value) : ∀ j u, [a, b, c, d][j]? = some u → (w.alloc (.cells #[a, b, c, d] t)).cell? ((⟨B, 0, none⟩ : Addr).add j) = some u := by
  subst hB
  intro j u hj
  match j, hj with
  | 0, hj => simp at hj; subst hj; simp [Addr.add]
  | 1, hj => simp at hj; subst hj; simp [Addr.add]
  | 2, hj => simp at hj; subst hj; simp [Addr.add]
  | 3, hj => simp at hj; subst hj; simp [Addr.add]
theorem cells_new8 (w : World) (t : TypeId) (B : Nat) (hB : B = w.heap.size) (a b c d e f g h : Value) : ∀ j u, [a, b, c, d, e, f, g, h][j]? = some u → (w.alloc (.cells #[a, b, c, d, e, f, g, h] t)).cell? ((⟨B, 0, none⟩ : Addr).add j) = some u := by
  subst hB
  intro j u hj
  match j, hj with
  | 0, hj => simp at hj; subst hj; simp [Addr.add]
  | 1, hj => simp at hj; subst hj; simp [Addr.add]
  | 2, hj => simp at hj; subst hj; simp [Addr.add]
  | 3, hj => simp at hj; subst hj; simp [Addr.add]
  | 4, hj => simp at hj; subst hj; simp [Addr.add]
  | 5, hj => simp at hj; subst hj; simp [Addr.add]
  | 6, hj => simp at hj; subst hj; simp [Addr.add]
  | 7, hj => simp at hj; subst hj; simp [Addr.add]

theorem grown_alloc_front {w w' : World} {o : Obj} {row : Option Nat} (h : (w.alloc o).grownBy w' row) : w.grownBy w' row :=
  ⟨h.os, h.tape, h.output, by have := h.size; simp at this; omega, fun k hk hne => (h.block k (by simp; omega) hne).trans (Below.heap_alloc w o k hk)⟩

theorem own_shape {w : World} {v : Value} {n : Nat} {xs : List Value} (h : w.ownsRow 0 5 1 v n xs) : ∃ ao cp, v = .slice ao n cp := by
  rcases h.2 with ⟨rfl, rfl⟩ | ⟨g, cap, cur, rfl, _⟩
  · exact ⟨none, 0, rfl⟩
  · exact ⟨_, _, rfl⟩
theorem own_at_size {v' : Value} {w : World} {k : Nat} {s : Option Nat} (h : v'.ownBlock = s ∨ v'.ownBlock = some k) (hs : w.heap.size ≤ k) : v'.ownBlock = s ∨ ∃ g, v'.ownBlock = some g ∧ w.heap.size ≤ g := by
  rcases h with h | h
  · exact Or.inl h
  · exact Or.inr ⟨_, h, hs⟩

set_option maxHeartbeats 400000 in
theorem app32_any (n u : Nat) (hu : u < 4294967296) (v : Value) (xs : List Value) (w : World) (hown : w.ownsRow 0 5 1 v n xs) (hn : n ≤ 1073740000) :
    Calls Try.prog 20 #[.agg #[], v, .int .u32 (u : Int)] w fun e w' => ∃ v' ao cp, v' = .slice ao (n + 4) cp ∧ e = .returned (.slice ao (n + 4) cp) ∧ w'.ownsRow 0 5 1 v' (n + 4) (xs ++ Mm.nv (Mm.be32 u)) ∧ w.grownBy w' v.ownBlock ∧ (v'.ownBlock = v.ownBlock ∨ ∃ g, v'.ownBlock = some g ∧ w.heap.size ≤ g) := by
  obtain ⟨i0, hi, hz0, hz1, hz2⟩ := info_parts Try.inf5
  go_enter Try.func20, Try.ntmps20
  go_wp2_with (at_builtin; refine wpList_append_own_at _ rfl _ _ 25 rfl 0 5 i0 (.int .u8 0) 1 1 Try.underlying25 hi hz0 hz1 hz2 rfl (by decide) v n xs rfl ((hown.alloc _).alloc _) _ 4 4 (Mm.nv (Mm.be32 u)) rfl rfl ?c1 (Mm.nv_one _) ?c3 ?c4 (Nat.zero_le _) ?_)
  case c1 => exact cells_new4 (w.alloc _) 5 _ (by simp) _ _ _ _
  case c3 => unfold maxLen; omega
  case c4 => omega
  intro v' w2 hown' hgrow _ hw
  go_wp2
  go_ret
  obtain ⟨ao, cp, e⟩ := own_shape hown'
  exact ⟨v', ao, cp, e, by rw [← e]; rfl, hown', grown_alloc_front (grown_alloc_front hgrow), own_at_size hw (by omega)⟩

set_option maxHeartbeats 400000 in
theorem app64_any (n u : Nat) (hu : u < 18446744073709551616) (v : Value) (xs : List Value) (w : World) (hown : w.ownsRow 0 5 1 v n xs) (hn : n ≤ 1073740000) :
    Calls Try.prog 21 #[.agg #[], v, .int .u64 (u : Int)] w fun e w' => ∃ v' ao cp, v' = .slice ao (n + 8) cp ∧ e = .returned (.slice ao (n + 8) cp) ∧ w'.ownsRow 0 5 1 v' (n + 8) (xs ++ Mm.nv (Mm.be64 u)) ∧ w.grownBy w' v.ownBlock ∧ (v'.ownBlock = v.ownBlock ∨ ∃ g, v'.ownBlock = some g ∧ w.heap.size ≤ g) := by
  obtain ⟨i0, hi, hz0, hz1, hz2⟩ := info_parts Try.inf5
  go_enter Try.func21, Try.ntmps21
  go_wp2_with (at_builtin; refine wpList_append_own_at _ rfl _ _ 25 rfl 0 5 i0 (.int .u8 0) 1 1 Try.underlying25 hi hz0 hz1 hz2 rfl (by decide) v n xs rfl ((hown.alloc _).alloc _) _ 8 8 (Mm.nv (Mm.be64 u)) rfl rfl ?c1 (Mm.nv_one _) ?c3 ?c4 (Nat.zero_le _) ?_)
  case c1 => exact cells_new8 (w.alloc _) 5 _ (by simp) _ _ _ _ _ _ _ _
  case c3 => unfold maxLen; omega
  case c4 => omega
  intro v' w2 hown' hgrow _ hw
  go_wp2
  go_ret
  obtain ⟨ao, cp, e⟩ := own_shape hown'
  exact ⟨v', ao, cp, e, by rw [← e]; rfl, hown', grown_alloc_front (grown_alloc_front hgrow), own_at_size hw (by omega)⟩
end Go.Proofs.Qxb6604618a
