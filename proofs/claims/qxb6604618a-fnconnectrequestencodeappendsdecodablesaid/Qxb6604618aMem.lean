import Derived.Test.Qxb6604618aRows
import Derived.WalkKit
import Derived.WalkSpells
import Derived.WalkLawsBesides
namespace Go.Proofs.Qxb6604618a
open Go.RowKit

theorem Try.inf5 : (Try.prog.info? 5).map (fun i => (i.zero, i.size, i.bytes)) = some (some (.int .u8 0), 1, 1) := by kernel_rfl

namespace Mm
/-- numbers as cells -/
def nv (l : List Int) : List Value := l.map (Value.int .u8)
theorem nv_length (l : List Int) : (nv l).length = l.length := by simp [nv]
theorem nv_app (a b : List Int) : nv (a ++ b) = nv a ++ nv b := by simp [nv]
theorem nv_one (l : List Int) : ∀ u ∈ nv l, u.oneCell' = true := ints_oneCell .u8 l
theorem nv_at (l : List Int) (j : Nat) (h : j < l.length) : (nv l)[j]? = some (.int .u8 (l.getD j 0)) := by
  simp [nv, List.getD, h]

/-- WHERE append's ANSWER LIES: in the row that it was handed, or in the block that it made. -/
theorem app_where (w : World) (v v' : Value) (w' : World) (n : Nat) (xs : List Value) (hown : w.ownsRow 0 5 1 v n xs) (a : Addr) (m c : Nat) (news : List Value) (hl : news.length = m)
    (hnews : ∀ j u, news[j]? = some u → w.cell? (a.add j) = some u) (h1 : ∀ u ∈ news, u.oneCell' = true) (hb : n + m ≤ 1073741824) (ty : TypeId)
    (hr : (Builtin.append_ #[25, 25] ty #[v, .slice (some a) m c]).run Try.prog w = .ok v' w') :
    v'.ownBlock = v.ownBlock ∨ v'.ownBlock = some w.heap.size := by
  obtain ⟨i, hi, hz0, hz1, hz2⟩ := info_parts Try.inf5
  have hl1 : news.length = m * i.size := by rw [hz1]; omega
  rcases hown.2 with ⟨rfl, rfl⟩ | ⟨g, cap, cur, rfl, hbg, hg, hnc, hcm, hcs, htake⟩
  · by_cases hm : m = 0
    · subst hm
      have e : (Builtin.append_ #[25, 25] ty #[.slice none 0 0, .slice (some a) 0 c]).run Try.prog w = .ok (.slice none 0 0) w := by
        simp [Builtin.append_, run_underlying Try.underlying25, sizeOf, typeInfo, hi, Builtin.lenOf, Builtin.firstCells, loadCells, loadCellsFrom]
      rw [e] at hr
      cases hr
      exact Or.inl rfl
    · have e := run_append_nil (P := Try.prog) w 25 ty 5 i (.int .u8 0) Try.underlying25 hi hz0 a m c news hl1 hnews (by omega) (by omega) (by rw [hz2]; omega)
      rw [e] at hr
      cases hr
      exact Or.inr rfl
  · by_cases hroom : n + m ≤ cap
    · have hfit : n * i.size + news.length ≤ cur.size := by rw [hz1, hcs]; omega
      have e := run_append_room (P := Try.prog) w 25 ty 5 i Try.underlying25 hi g n cap cur hg a m c news hl1 hnews h1 hroom hfit
      rw [e] at hr
      cases hr
      exact Or.inl rfl
    · have holds : ∀ j u, xs[j]? = some u → w.cell? ((⟨g, 0, none⟩ : Addr).add j) = some u := hown.cells (g := g) rfl
      have e := run_append_grow (P := Try.prog) w 25 ty 5 i (.int .u8 0) Try.underlying25 hi hz0 ⟨g, 0, none⟩ n cap xs (by rw [hz1]; exact hown.1) holds a m c news hl1 hnews (by omega) (by omega)
        (growslice_fits (by omega) (by rw [hz2]; omega))
      rw [e] at hr
      cases hr
      exact Or.inr rfl

/-- 'append' ONTO A ROW OF THE CALL's OWN, and where the answer lies. -/
theorem run_app (w : World) (v : Value) (n : Nat) (xs : List Value) (hown : w.ownsRow 0 5 1 v n xs) (a : Addr) (m c : Nat) (news : List Value) (hl : news.length = m)
    (hnews : ∀ j u, news[j]? = some u → w.cell? (a.add j) = some u) (h1 : ∀ u ∈ news, u.oneCell' = true) (hb : n + m ≤ 1073741824) (ty : TypeId) :
    ∃ v' w', (Builtin.append_ #[25, 25] ty #[v, .slice (some a) m c]).run Try.prog w = .ok v' w' ∧ w'.ownsRow 0 5 1 v' (n + m) (xs ++ news) ∧ w.grownBy w' v.ownBlock ∧
      (v'.ownBlock = v.ownBlock ∨ v'.ownBlock = some w.heap.size) := by
  obtain ⟨i, hi, hz0, hz1, hz2⟩ := info_parts Try.inf5
  obtain ⟨v', w', hr, h2, h3, _⟩ := run_append_own (P := Try.prog) w 0 25 ty 5 i (.int .u8 0) 1 1 Try.underlying25 hi hz0 hz1 hz2 rfl (by decide) v n xs hown a m c news (by omega) hnews h1 (by unfold maxLen; omega) (by omega) (Nat.zero_le _)
  exact ⟨v', w', hr, h2, h3, app_where w v v' w' n xs hown a m c news hl hnews h1 hb ty hr⟩

theorem wpList_app {ops : Array Oper} {rest : List Oper} {o : Oper} {a : Act} {Q : Exit → Act → World → Prop} (w : World) (hgd : o.guard = none) (s x : Operand)
    (ho : o.op = .call { callee := .builtin .append, args := #[s, x], argTypes := #[25, 25] })
    (v : Value) (n : Nat) (xs : List Value) (hs : a.eval s = v) (hown : w.ownsRow 0 5 1 v n xs)
    (ad : Addr) (m c : Nat) (news : List Value) (hx : a.eval x = .slice (some ad) m c) (hl : news.length = m) (hnews : ∀ j u, news[j]? = some u → w.cell? (ad.add j) = some u) (h1 : ∀ u ∈ news, u.oneCell' = true)
    (hb : n + m ≤ 1073741824)
    (h : ∀ v' w', w'.ownsRow 0 5 1 v' (n + m) (xs ++ news) → w.grownBy w' v.ownBlock → (v'.ownBlock = v.ownBlock ∨ v'.ownBlock = some w.heap.size) → wpList Try.prog ops Q rest (a.put o.dst v') w') : wpList Try.prog ops Q (o :: rest) a w := by
  refine wpList_plain hgd fun K hK => ?_
  obtain ⟨v', w', hr, h2, h3, h4⟩ := run_app w v n xs hown ad m c news hl hnews h1 hb o.type
  unfold Oper.wp execOp
  simp only [ho, resolve, invoke, builtin, Sem.run_bind, Sem.run_pure, Result.andThen_ok, List.map_toArray, List.map_cons, List.map_nil, hs, hx, hr]
  exact hK _ _ (h v' w' h2 h3 h4)

/-! ### bytes of a number, the greatest first -/
def be32 (n : Int) : List Int := [n / 16777216, n / 65536 % 256, n / 256 % 256, n % 256]
def be64 (n : Int) : List Int := [n / 72057594037927936, n / 281474976710656 % 256, n / 1099511627776 % 256, n / 4294967296 % 256, n / 16777216 % 256, n / 65536 % 256, n / 256 % 256, n % 256]
end Mm

theorem cells_new4 (w : World) (t : TypeId) (B : Nat) (hB : B = w.heap.size) (a b c d : Value) : ∀ j u, [a, b, c, d][j]? = some u → (w.alloc (.cells #[a, b, c, d] t)).cell? ((⟨B, 0, none⟩ : Addr).add j) = some u := by
  subst hB
  intro j u hj
  match j, hj with
  | 0, hj => simp at hj; subst hj; simp [Addr.add]
  | 1, hj => simp at hj; subst hj; simp [Addr.add]
  | 2, hj => simp at hj; subst hj; simp [Addr.add]
  | 3, hj => simp at hj; subst hj; simp [Addr.add]
theorem cells_new8 (w : World) (t : TypeId) (B : Nat) (hB : B = w.heap.size) (a b c d e f g h : Value) : ∀ j u, [a, b, c, d, e, f, g, h][j]? = some u → (w.alloc (.cells #[a, b, c, d, e, f, g, h] t)).cell? ((⟨B, 0, none⟩ : Addr).add j) = some u := by
  subst hB
  intro j u hj
  match j, hj with
  | 0, hj => simp at hj; subst hj; simp [Addr.add]
  | 1, hj => simp at hj; subst hj; simp [Addr.add]
  | 2, hj => simp at hj; subst hj; simp [Addr.add]
  | 3, hj => simp at hj; subst hj; simp [Addr.add]
  | 4, hj => simp at hj; subst hj; simp [Addr.add]
  | 5, hj => simp at hj; subst hj; simp [Addr.add]
  | 6, hj => simp at hj; subst hj; simp [Addr.add]
  | 7, hj => simp at hj; subst hj; simp [Addr.add]

theorem grown_alloc_front {w w' : World} {o : Obj} {row : Option Nat} (h : (w.alloc o).grownBy w' row) : w.grownBy w' row :=
  ⟨h.os, h.tape, h.output, by have := h.size; simp at this; omega, fun k hk hne => (h.block k (by simp; omega) hne).trans (Below.heap_alloc w o k hk)⟩

theorem own_shape {w : World} {v : Value} {n : Nat} {xs : List Value} (h : w.ownsRow 0 5 1 v n xs) : ∃ ao cp, v = .slice ao n cp := by
  rcases h.2 with ⟨rfl, rfl⟩ | ⟨g, cap, cur, rfl, _⟩
  · exact ⟨none, 0, rfl⟩
  · exact ⟨_, _, rfl⟩
theorem own_at_size {v' : Value} {w : World} {k : Nat} {s : Option Nat} (h : v'.ownBlock = s ∨ v'.ownBlock = some k) (hs : w.heap.size ≤ k) : v'.ownBlock = s ∨ ∃ g, v'.ownBlock = some g ∧ w.heap.size ≤ g := by
  rcases h with h | h
  · exact Or.inl h
  · exact Or.inr ⟨_, h, hs⟩

set_option maxHeartbeats 400000 in
theorem app32_any (n u : Nat) (hu : u < 4294967296) (v : Value) (xs : List Value) (w : World) (hown : w.ownsRow 0 5 1 v n xs) (hn : n ≤ 1073740000) :
    Calls Try.prog 20 #[.agg #[], v, .int .u32 (u : Int)] w fun e w' => ∃ v' ao cp, v' = .slice ao (n + 4) cp ∧ e = .returned (.slice ao (n + 4) cp) ∧ w'.ownsRow 0 5 1 v' (n + 4) (xs ++ Mm.nv (Mm.be32 u)) ∧ w.grownBy w' v.ownBlock ∧ (v'.ownBlock = v.ownBlock ∨ ∃ g, v'.ownBlock = some g ∧ w.heap.size ≤ g) := by
  go_enter Try.func20, Try.ntmps20
  go_wp2_with (at_builtin; refine Mm.wpList_app _ rfl _ _ rfl v n xs rfl ((hown.alloc _).alloc _) _ 4 4 (Mm.nv (Mm.be32 u)) rfl rfl ?c1 (Mm.nv_one _) ?c3 ?_)
  case c1 => exact cells_new4 (w.alloc _) 5 _ (by simp) _ _ _ _
  case c3 => omega
  intro v' w2 hown' hgrow hw
  go_wp2
  go_ret
  obtain ⟨ao, cp, e⟩ := own_shape hown'
  exact ⟨v', ao, cp, e, by rw [← e]; rfl, hown', grown_alloc_front (grown_alloc_front hgrow), own_at_size hw (by omega)⟩

set_option maxHeartbeats 400000 in
theorem app64_any (n u : Nat) (hu : u < 18446744073709551616) (v : Value) (xs : List Value) (w : World) (hown : w.ownsRow 0 5 1 v n xs) (hn : n ≤ 1073740000) :
    Calls Try.prog 21 #[.agg #[], v, .int .u64 (u : Int)] w fun e w' => ∃ v' ao cp, v' = .slice ao (n + 8) cp ∧ e = .returned (.slice ao (n + 8) cp) ∧ w'.ownsRow 0 5 1 v' (n + 8) (xs ++ Mm.nv (Mm.be64 u)) ∧ w.grownBy w' v.ownBlock ∧ (v'.ownBlock = v.ownBlock ∨ ∃ g, v'.ownBlock = some g ∧ w.heap.size ≤ g) := by
  go_enter Try.func21, Try.ntmps21
  go_wp2_with (at_builtin; refine Mm.wpList_app _ rfl _ _ rfl v n xs rfl ((hown.alloc _).alloc _) _ 8 8 (Mm.nv (Mm.be64 u)) rfl rfl ?c1 (Mm.nv_one _) ?c3 ?_)
  case c1 => exact cells_new8 (w.alloc _) 5 _ (by simp) _ _ _ _ _ _ _ _
  case c3 => omega
  intro v' w2 hown' hgrow hw
  go_wp2
  go_ret
  obtain ⟨ao, cp, e⟩ := own_shape hown'
  exact ⟨v', ao, cp, e, by rw [← e]; rfl, hown', grown_alloc_front (grown_alloc_front hgrow), own_at_size hw (by omega)⟩
end Go.Proofs.Qxb6604618a
