import Derived.Test.Qxb6003309aVerWalk
namespace Go.Proofs.Qxb6003309a
open Go.RowKit

set_option maxRecDepth 100000 in
set_option maxHeartbeats 800000 in
theorem vt_one (w : World) (a0 a1 : Option Addr) (m c0 c1 : Nat) (zs es : List Int) (b : Int) (hm : m ≤ 65536) (hc0 : a0 = none → c0 = 0) (hc1 : a1 = none → c1 = 0) (e0 : Mm.Els w a0 1 zs) (e1 : Mm.Els w a1 m es) (hzs : Bs zs) (hes : Bs es) (hb : 0 ≤ b ∧ b ≤ 255) :
    Calls Try.prog 5 #[.slice a0 1 c0, .slice a1 m c1, .int .u8 b] w fun e w' => e = .returned (.bool true) ∧ Below w.heap.size w w' := by
  have HZ := (show Hid _ from e0.length)
  have HE := (show Hid _ from e1.length)
  go_enter Try.func5, Try.ntmps5
  go_wp2_with fail
  refine (zz12_yes w a0 a1 1 m c0 c1 b (by omega) hm).mono ?_
  rintro e w' ⟨rfl, rfl⟩
  go_wp2_with fail
  refine (clone_any w a0 1 c0 zs (by omega) hc0 e0).mono ?_
  rintro e w1 ⟨ao, cp, rfl, hao, own1, bel1⟩
  obtain ⟨em1, hcp⟩ := Els_copy HZ.out hao own1
  go_wp2_with fail
  refine (clone_any w1 a1 m c1 es (by omega) hc1 (e1.below bel1)).mono ?_
  rintro e w2 ⟨ae, ce, rfl, hae, own2, bel2⟩
  obtain ⟨ee2, hce⟩ := Els_copy HE.out hae own2
  have em2 := em1.below bel2
  have s1 := bel1.size
  have s2 := bel2.size
  have bel02 : Below w.heap.size w w2 := bel1.trans (bel2.mono s1)
  clear e0 e1 own1 own2 hao hae em1 bel1 bel2 hc0 hc1 hce
  obtain ⟨x, hx⟩ : ∃ x, zs.getD 0 0 = x := ⟨_, rfl⟩
  have hy : zs.getD 1 0 = 0 := getD_none (by have := HZ.out; omega)
  have rx := hzs.at 0
  rw [hx] at rx
  obtain ⟨rx0, rx1⟩ := rx
  obtain ⟨rb0, rb1⟩ := hb
  have HX := (show Hid _ from hx)
  have HY := (show Hid _ from hy)
  clear hx hy
  go_wp2_with fail
  refine (ver_any w2 ao 1 cp zs (x / 32) true em2 (by omega) (hzs.at 0) (by rw [HX.out]) rfl).mono ?_
  rintro e w' ⟨rfl, rfl⟩
  go_wp2_with fail
  refine (typ_any w2 ao 1 cp zs 0 false em2 (by omega) HY.out rfl).mono ?_
  rintro e w' ⟨rfl, rfl⟩
  go_wp2_with fail
  refine (concat_any w2 ao ae 1 m cp ce zs es (by omega) hm em2 ee2).mono ?_
  rintro e w3 ⟨rfl, own3, bel3⟩
  have ej := Mm.Els.of_own (zs := zs ++ es) (by rw [List.length_append, HZ.out, HE.out]) own3
  have em3 := em2.below bel3
  have s3 := bel3.size
  have bel03 : Below w.heap.size w w3 := bel02.trans (bel3.mono (by omega))
  clear own3 bel3 bel02 ee2 em2
  go_wp2_with fail
  refine (ver_any w3 _ (1 + m) (1 + m) (zs ++ es) (x / 32) true ej (by omega) ((hzs.app hes).at 0) (by rw [join0 zs es (by have := HZ.out; omega), HX.out]) (by simp; omega)).mono ?_
  rintro e w' ⟨rfl, rfl⟩
  go_wp2_with fail
  obtain ⟨tj, htj⟩ : ∃ t, (zs ++ es).getD 1 0 = t := ⟨_, rfl⟩
  obtain ⟨bj, hbj⟩ : ∃ t, decide (2 ≤ 1 + m) = t := ⟨_, rfl⟩
  refine (typ_any w3 _ (1 + m) (1 + m) (zs ++ es) tj bj ej (by omega) htj hbj).mono ?_
  rintro e w' ⟨rfl, rfl⟩
  clear ej htj hbj
  go_wp2_with fail
  refine (clone_any w3 ao 1 cp zs (by omega) hcp em3).mono ?_
  rintro e w4 ⟨a4, c4, rfl, ha4, own4, bel4⟩
  obtain ⟨bb, off, rfl, hrow⟩ := em3.row (by omega)
  obtain ⟨rfl, rfl⟩ : a4 = some ⟨w3.heap.size, 0, none⟩ ∧ c4 = 1 := by
    rcases ha4 with ⟨h, _⟩ | ⟨_, h1, h2⟩
    · cases h
    · exact ⟨h1, h2⟩
  have em4 := em3.below bel4
  have s4 := bel4.size
  have hbb : bb < w3.heap.size := World.block_lt_of_cell? w3 _ (hrow 0 (by omega))
  have q4 : w4.cell? ⟨bb, off, none⟩ = some (.int .u8 x) := by
    have := (bel4.cell (p := ⟨bb, off + 0, none⟩) hbb).trans (hrow 0 (by omega))
    rw [HX.out] at this
    exact this
  have d4 : w4.cell? ⟨w3.heap.size, 0, none⟩ = some (.int .u8 (zs.getD 0 0)) := (own4.cellAt 0 (by omega)).trans (Mm.nv_at zs 0 (by have := HZ.out; omega))
  have f4 := own4.frozenAt 0
  obtain ⟨n, hn⟩ : ∃ n, x / 32 * 32 + b % 32 = n := ⟨_, rfl⟩
  have mx : bits .or .u8 (bits .and .u8 x 224) (b % 32) = n := by
    rw [and224 x rx0 rx1, or32 _ _ (by omega) (by omega) (by omega) (by omega) (by omega)]; exact hn
  have n0 : 0 ≤ n := by omega
  have n1 : n ≤ 255 := by omega
  have HN : Hid (n / 32 = x / 32) := (show n / 32 = x / 32 by omega)
  have R4 := (own4.stored 0 (.int .u8 n)).1
  rw [Mm.nv_set] at R4
  have em4s := Mm.Els.of_own (by rw [List.length_set]; exact HZ.out) R4
  have bel4s : Below w3.heap.size w3 (w4.setCell ⟨w3.heap.size, 0, none⟩ (.int .u8 n)) := bel4.setCell (Nat.le_refl _) _
  have em5 := em3.below bel4s
  clear ha4 own4 bel4 em3 em4 R4 hrow hn
  go_wp2_with fail
  refine (ver_any (w4.setCell ⟨w3.heap.size, 0, none⟩ (.int .u8 n)) _ 1 1 (zs.set 0 n) (x / 32) true em4s (by omega) (by rw [set0 zs n (by have := HZ.out; omega)]; exact ⟨n0, n1⟩) (by rw [set0 zs n (by have := HZ.out; omega)]; exact HN.out) rfl).mono ?_
  rintro e w' ⟨rfl, rfl⟩
  clear em4s mx
  go_wp2_with fail
  refine (clone_any (w4.setCell ⟨w3.heap.size, 0, none⟩ (.int .u8 n)) _ 1 cp zs (by omega) hcp em5).mono ?_
  rintro e w5 ⟨a5, c5, rfl, ha5, own5, bel5⟩
  obtain ⟨rfl, rfl⟩ : a5 = some ⟨(w4.setCell ⟨w3.heap.size, 0, none⟩ (.int .u8 n)).heap.size, 0, none⟩ ∧ c5 = 1 := by
    rcases ha5 with ⟨h, _⟩ | ⟨_, h1, h2⟩
    · cases h
    · exact ⟨h1, h2⟩
  rw [World.size_setCell] at own5 bel5
  have d5 : w5.cell? ⟨w4.heap.size, 0, none⟩ = some (.int .u8 (zs.getD 0 0)) := (own5.cellAt 0 (by omega)).trans (Mm.nv_at zs 0 (by have := HZ.out; omega))
  have f5 := own5.frozenAt 0
  have bel5s : Below w.heap.size w (w5.setCell ⟨w4.heap.size, 0, none⟩ (.int .u8 b)) := ((bel03.trans (bel4s.mono (by omega))).trans (bel5.mono (by omega))).setCell (by show w.heap.size ≤ w4.heap.size; omega) _
  clear ha5 own5 bel5 em5 bel4s bel03 d4 f4 q4
  go_wp2
  go_ret
  exact ⟨rfl, bel5s⟩

set_option maxRecDepth 100000 in
set_option maxHeartbeats 800000 in
theorem vt_zero (w : World) (a0 a1 : Option Addr) (m c0 c1 : Nat) (zs es : List Int) (b : Int) (hm : m ≤ 65536) (hc0 : a0 = none → c0 = 0) (hc1 : a1 = none → c1 = 0) (e0 : Mm.Els w a0 0 zs) (e1 : Mm.Els w a1 m es) (hzs : Bs zs) (hes : Bs es)  :
    Calls Try.prog 5 #[.slice a0 0 c0, .slice a1 m c1, .int .u8 b] w fun e w' => e = .returned (.bool true) ∧ Below w.heap.size w w' := by
  have HZ := (show Hid _ from e0.length)
  have HE := (show Hid _ from e1.length)
  go_enter Try.func5, Try.ntmps5
  go_wp2_with fail
  refine (zz12_yes w a0 a1 0 m c0 c1 b (by omega) hm).mono ?_
  rintro e w' ⟨rfl, rfl⟩
  go_wp2_with fail
  refine (clone_any w a0 0 c0 zs (by omega) hc0 e0).mono ?_
  rintro e w1 ⟨ao, cp, rfl, hao, own1, bel1⟩
  obtain ⟨em1, hcp⟩ := Els_copy HZ.out hao own1
  go_wp2_with fail
  refine (clone_any w1 a1 m c1 es (by omega) hc1 (e1.below bel1)).mono ?_
  rintro e w2 ⟨ae, ce, rfl, hae, own2, bel2⟩
  obtain ⟨ee2, hce⟩ := Els_copy HE.out hae own2
  have em2 := em1.below bel2
  have s1 := bel1.size
  have s2 := bel2.size
  have bel02 : Below w.heap.size w w2 := bel1.trans (bel2.mono s1)
  clear e0 e1 own1 own2 hao hae em1 bel1 bel2 hc0 hc1 hce hcp
  have hx : zs.getD 0 0 = 0 := getD_none (by have := HZ.out; omega)
  have hy : zs.getD 1 0 = 0 := getD_none (by have := HZ.out; omega)
  have HX := (show Hid _ from hx)
  have HY := (show Hid _ from hy)
  clear hx hy
  go_wp2_with fail
  refine (ver_any w2 ao 0 cp zs 0 false em2 (by omega) (hzs.at 0) (by rw [HX.out]; rfl) rfl).mono ?_
  rintro e w' ⟨rfl, rfl⟩
  go_wp2_with fail
  refine (typ_any w2 ao 0 cp zs 0 false em2 (by omega) HY.out rfl).mono ?_
  rintro e w' ⟨rfl, rfl⟩
  go_wp2_with fail
  refine (concat_any w2 ao ae 0 m cp ce zs es (by omega) hm em2 ee2).mono ?_
  rintro e w3 ⟨he, own3, bel3⟩
  rw [Nat.zero_add] at he own3
  subst he
  have ej := Mm.Els.of_own (zs := zs ++ es) (by rw [List.length_append, HZ.out, HE.out, Nat.zero_add]) own3
  have s3 := bel3.size
  have bel03 : Below w.heap.size w w3 := bel02.trans (bel3.mono (by omega))
  clear own3 bel3 bel02 ee2 em2
  go_wp2_with fail
  obtain ⟨vj, hvj⟩ : ∃ t, (zs ++ es).getD 0 0 / 32 = t := ⟨_, rfl⟩
  obtain ⟨cj, hcj⟩ : ∃ t, decide (0 < m) = t := ⟨_, rfl⟩
  refine (ver_any w3 _ m m (zs ++ es) vj cj ej (by omega) ((hzs.app hes).at 0) hvj hcj).mono ?_
  rintro e w' ⟨rfl, rfl⟩
  go_wp2_with fail
  obtain ⟨tj, htj⟩ : ∃ t, (zs ++ es).getD 1 0 = t := ⟨_, rfl⟩
  obtain ⟨bj, hbj⟩ : ∃ t, decide (2 ≤ m) = t := ⟨_, rfl⟩
  refine (typ_any w3 _ m m (zs ++ es) tj bj ej (by omega) htj hbj).mono ?_
  rintro e w' ⟨rfl, rfl⟩
  clear ej htj hbj hvj hcj
  go_wp2
  go_ret
  exact ⟨rfl, bel03⟩
end Go.Proofs.Qxb6003309a
