import Derived.Test.Qxb6003309aVerParts
namespace Go.Proofs.Qxb6003309a
open Go.RowKit

set_option maxHeartbeats 400000 in
theorem zz12 (w : World) (a0 a1 : Option Addr) (L m c0 c1 : Nat) (b : Int) (hL : L ≤ maxLen) (hm : m ≤ maxLen) :
    Calls Try.prog 12 #[.slice a0 L c0, .slice a1 m c1, .int .u8 b] w fun e w' => (e = .returned (.bool false) ∨ e = .returned (.bool true)) ∧ w = w' := by
  unfold maxLen at hL hm
  go_enter Try.func12, Try.ntmps12
  go_wp2
  all_goals (go_ret; first | exact ⟨Or.inl rfl, rfl⟩ | exact ⟨Or.inr rfl, rfl⟩)

set_option maxHeartbeats 400000 in
theorem zz12_yes (w : World) (a0 a1 : Option Addr) (L m c0 c1 : Nat) (b : Int) (hL : L ≤ 65536) (hm : m ≤ 65536) :
    Calls Try.prog 12 #[.slice a0 L c0, .slice a1 m c1, .int .u8 b] w fun e w' => e = .returned (.bool true) ∧ w = w' := by
  go_enter Try.func12, Try.ntmps12
  go_wp2
  go_ret
  exact ⟨rfl, rfl⟩

set_option maxRecDepth 100000 in
set_option maxHeartbeats 400000 in
theorem vt_big0 (w : World) (a0 a1 : Option Addr) (L m c0 c1 : Nat) (b : Int) (hL : L ≤ maxLen) (hm : m ≤ maxLen) (h : 65536 < L) :
    Calls Try.prog 5 #[.slice a0 L c0, .slice a1 m c1, .int .u8 b] w fun e w' => e = .returned (.bool true) ∧ Below w.heap.size w w' := by
  go_enter Try.func5, Try.ntmps5
  go_wp2_with fail
  refine (zz12 w a0 a1 L m c0 c1 b hL hm).mono ?_
  rintro e w' ⟨he, rfl⟩
  rcases he with rfl | rfl
  all_goals
    go_wp2
    go_ret
    exact ⟨rfl, Below.refl _ _⟩

set_option maxRecDepth 100000 in
set_option maxHeartbeats 400000 in
theorem vt_big1 (w : World) (a0 a1 : Option Addr) (L m c0 c1 : Nat) (b : Int) (hL : L ≤ maxLen) (hm : m ≤ maxLen) (h0 : L ≤ 65536) (h : 65536 < m) :
    Calls Try.prog 5 #[.slice a0 L c0, .slice a1 m c1, .int .u8 b] w fun e w' => e = .returned (.bool true) ∧ Below w.heap.size w w' := by
  go_enter Try.func5, Try.ntmps5
  go_wp2_with fail
  refine (zz12 w a0 a1 L m c0 c1 b hL hm).mono ?_
  rintro e w' ⟨he, rfl⟩
  rcases he with rfl | rfl
  all_goals
    go_wp2
    go_ret
    exact ⟨rfl, Below.refl _ _⟩

theorem join0 (zs es : List Int) (h : 0 < zs.length) : (zs ++ es).getD 0 0 = zs.getD 0 0 := by
  simp only [List.getD]; rw [List.getElem?_append_left h]
theorem join1 (zs es : List Int) (h : 1 < zs.length) : (zs ++ es).getD 1 0 = zs.getD 1 0 := by
  simp only [List.getD]; rw [List.getElem?_append_left h]
theorem set0 (zs : List Int) (x : Int) (h : 0 < zs.length) : (zs.set 0 x).getD 0 0 = x := by simp [List.getD, h]
theorem set1 (zs : List Int) (x : Int) : (zs.set 0 x).getD 1 0 = zs.getD 1 0 := by simp [List.getD]
/-- bytes -/
def Bs (zs : List Int) : Prop := ∀ n ∈ zs, 0 ≤ n ∧ n ≤ 255
theorem Bs.at {zs : List Int} (h : Bs zs) (i : Nat) : 0 ≤ zs.getD i 0 ∧ zs.getD i 0 ≤ 255 := by
  by_cases hi : i < zs.length
  · have := h (zs[i]) (List.getElem_mem hi)
    simpa [List.getD, hi] using this
  · rw [getD_none (by omega)]; omega
theorem Bs.app {zs es : List Int} (h : Bs zs) (g : Bs es) : Bs (zs ++ es) := by
  intro n hn
  rcases List.mem_append.1 hn with hn | hn
  · exact h n hn
  · exact g n hn
theorem mixed (x b : Int) (h0 : 0 ≤ x) (h1 : x ≤ 255) (b0 : 0 ≤ b) (b1 : b ≤ 255) : bits .or .u8 (bits .and .u8 x 224) (bits .and .u8 b 31) = x / 32 * 32 + b % 32 := by
  rw [and224 x h0 h1, and31 b b0 b1, or32 _ _ (by omega) (by omega) (by omega) (by omega) (by omega)]

set_option maxRecDepth 100000 in
set_option maxHeartbeats 800000 in
theorem vt_two (w : World) (a0 a1 : Option Addr) (L m c0 c1 : Nat) (zs es : List Int) (b : Int) (hL : L ≤ 65536) (hm : m ≤ 65536) (h2 : 2 ≤ L) (hc0 : a0 = none → c0 = 0) (hc1 : a1 = none → c1 = 0) (e0 : Mm.Els w a0 L zs) (e1 : Mm.Els w a1 m es) (hzs : Bs zs) (hes : Bs es) (hb : 0 ≤ b ∧ b ≤ 255) :
    Calls Try.prog 5 #[.slice a0 L c0, .slice a1 m c1, .int .u8 b] w fun e w' => e = .returned (.bool true) ∧ Below w.heap.size w w' := by
  have g1 : (1 : Int) ≤ (L : Int) := by omega
  have g2 : (2 : Int) ≤ (L : Int) := by omega
  have HZ := (show Hid _ from e0.length)
  have HE := (show Hid _ from e1.length)
  go_enter Try.func5, Try.ntmps5
  go_wp2_with fail
  refine (zz12_yes w a0 a1 L m c0 c1 b hL hm).mono ?_
  rintro e w' ⟨rfl, rfl⟩
  go_wp2_with fail
  refine (clone_any w a0 L c0 zs (by omega) hc0 e0).mono ?_
  rintro e w1 ⟨ao, cp, rfl, hao, own1, bel1⟩
  obtain ⟨em1, hcp⟩ := Els_copy HZ.out hao own1
  go_wp2_with fail
  refine (clone_any w1 a1 m c1 es (by omega) hc1 (e1.below bel1)).mono ?_
  rintro e w2 ⟨ae, ce, rfl, hae, own2, bel2⟩
  obtain ⟨ee2, hce⟩ := Els_copy HE.out hae own2
  have em2 := em1.below bel2
  have s1 := bel1.size
  have s2 := bel2.size
  have bel02 : Below w.heap.size w w2 := bel1.trans (bel2.mono s1)
  clear e0 e1 own1 own2 hao hae em1 bel1 bel2 hc0 hc1 hce
  obtain ⟨x, hx⟩ : ∃ x, zs.getD 0 0 = x := ⟨_, rfl⟩
  obtain ⟨y, hy⟩ : ∃ y, zs.getD 1 0 = y := ⟨_, rfl⟩
  have rx := hzs.at 0
  rw [hx] at rx
  obtain ⟨rx0, rx1⟩ := rx
  obtain ⟨rb0, rb1⟩ := hb
  have HX := (show Hid _ from hx)
  have HY := (show Hid _ from hy)
  clear hx hy
  go_wp2_with fail
  refine (ver_any w2 ao L cp zs (x / 32) true em2 (by omega) (hzs.at 0) (by rw [HX.out]) (by simp; omega)).mono ?_
  rintro e w' ⟨rfl, rfl⟩
  go_wp2_with fail
  refine (typ_any w2 ao L cp zs y true em2 (by omega) HY.out (by simpa using h2)).mono ?_
  rintro e w' ⟨rfl, rfl⟩
  go_wp2_with fail
  refine (concat_any w2 ao ae L m cp ce zs es hL hm em2 ee2).mono ?_
  rintro e w3 ⟨rfl, own3, bel3⟩
  have ej := Mm.Els.of_own (zs := zs ++ es) (by rw [List.length_append, HZ.out, HE.out]) own3
  have em3 := em2.below bel3
  have s3 := bel3.size
  have bel03 : Below w.heap.size w w3 := bel02.trans (bel3.mono (by omega))
  clear own3 bel3 bel02 ee2 em2
  go_wp2_with fail
  refine (ver_any w3 _ (L + m) (L + m) (zs ++ es) (x / 32) true ej (by omega) ((hzs.app hes).at 0) (by rw [join0 zs es (by have := HZ.out; omega), HX.out]) (by simp; omega)).mono ?_
  rintro e w' ⟨rfl, rfl⟩
  go_wp2_with fail
  refine (typ_any w3 _ (L + m) (L + m) (zs ++ es) y true ej (by omega) (by rw [join1 zs es (by have := HZ.out; omega), HY.out]) (by simp; omega)).mono ?_
  rintro e w' ⟨rfl, rfl⟩
  clear ej
  go_wp2_with fail
  refine (clone_any w3 ao L cp zs (by omega) hcp em3).mono ?_
  rintro e w4 ⟨a4, c4, rfl, ha4, own4, bel4⟩
  obtain ⟨bb, off, rfl, hrow⟩ := em3.row (by omega)
  obtain ⟨rfl, rfl⟩ : a4 = some ⟨w3.heap.size, 0, none⟩ ∧ L = c4 := by
    rcases ha4 with ⟨h, _⟩ | ⟨_, h1, h2⟩
    · cases h
    · exact ⟨h1, h2.symm⟩
  have em4 := em3.below bel4
  have s4 := bel4.size
  have hbb : bb < w3.heap.size := World.block_lt_of_cell? w3 _ (hrow 0 (by omega))
  have q4 : w4.cell? ⟨bb, off, none⟩ = some (.int .u8 x) := by
    have := (bel4.cell (p := ⟨bb, off + 0, none⟩) hbb).trans (hrow 0 (by omega))
    rw [HX.out] at this
    exact this
  have d4 : w4.cell? ⟨w3.heap.size, 0, none⟩ = some (.int .u8 (zs.getD 0 0)) := (own4.cellAt 0 (by omega)).trans (Mm.nv_at zs 0 (by have := HZ.out; omega))
  have f4 := own4.frozenAt 0
  obtain ⟨n, hn⟩ : ∃ n, x / 32 * 32 + b % 32 = n := ⟨_, rfl⟩
  have mx : bits .or .u8 (bits .and .u8 x 224) (b % 32) = n := by
    rw [and224 x rx0 rx1, or32 _ _ (by omega) (by omega) (by omega) (by omega) (by omega)]; exact hn
  have n0 : 0 ≤ n := by omega
  have n1 : n ≤ 255 := by omega
  have HN : Hid (n / 32 = x / 32) := (show n / 32 = x / 32 by omega)
  have R4 := (own4.stored 0 (.int .u8 n)).1
  rw [Mm.nv_set] at R4
  have em4s := Mm.Els.of_own (by rw [List.length_set]; exact HZ.out) R4
  have bel4s : Below w3.heap.size w3 (w4.setCell ⟨w3.heap.size, 0, none⟩ (.int .u8 n)) := bel4.setCell (Nat.le_refl _) _
  have em5 := em3.below bel4s
  clear ha4 own4 bel4 em3 em4 R4 hrow hn
  go_wp2_with fail
  refine (ver_any (w4.setCell ⟨w3.heap.size, 0, none⟩ (.int .u8 n)) _ L L (zs.set 0 n) (x / 32) true em4s (by omega) (by rw [set0 zs n (by have := HZ.out; omega)]; exact ⟨n0, n1⟩) (by rw [set0 zs n (by have := HZ.out; omega)]; exact HN.out) (by simp; omega)).mono ?_
  rintro e w' ⟨rfl, rfl⟩
  clear em4s mx
  go_wp2_with fail
  refine (clone_any (w4.setCell ⟨w3.heap.size, 0, none⟩ (.int .u8 n)) _ L cp zs (by omega) hcp em5).mono ?_
  rintro e w5 ⟨a5, c5, rfl, ha5, own5, bel5⟩
  obtain ⟨rfl, rfl⟩ : a5 = some ⟨(w4.setCell ⟨w3.heap.size, 0, none⟩ (.int .u8 n)).heap.size, 0, none⟩ ∧ L = c5 := by
    rcases ha5 with ⟨h, _⟩ | ⟨_, h1, h2⟩
    · cases h
    · exact ⟨h1, h2.symm⟩
  rw [World.size_setCell] at own5 bel5
  have d5 : w5.cell? ⟨w4.heap.size, 0, none⟩ = some (.int .u8 (zs.getD 0 0)) := (own5.cellAt 0 (by omega)).trans (Mm.nv_at zs 0 (by have := HZ.out; omega))
  have f5 := own5.frozenAt 0
  have R5 := (own5.stored 0 (.int .u8 b)).1
  rw [Mm.nv_set] at R5
  have em5s := Mm.Els.of_own (by rw [List.length_set]; exact HZ.out) R5
  have bel5s : Below w.heap.size w (w5.setCell ⟨w4.heap.size, 0, none⟩ (.int .u8 b)) := ((bel03.trans (bel4s.mono (by omega))).trans (bel5.mono (by omega))).setCell (by show w.heap.size ≤ w4.heap.size; omega) _
  clear ha5 own5 bel5 R5 em5 bel4s bel03 d4 f4 q4
  go_wp2_with fail
  refine (typ_any (w5.setCell ⟨w4.heap.size, 0, none⟩ (.int .u8 b)) _ L L (zs.set 0 b) y true em5s (by omega) (by rw [set1 zs b]; exact HY.out) (by simpa using h2)).mono ?_
  rintro e w' ⟨rfl, rfl⟩
  go_wp2
  go_ret
  exact ⟨rfl, bel5s⟩
end Go.Proofs.Qxb6003309a
