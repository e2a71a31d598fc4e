import Derived.Test.Qxb6003309aClone
import Derived.Test.Qxb6003309aBits
namespace Go.Proofs.Qxb6003309a
open Go.RowKit

theorem Mm.Els.below {w w' : World} {a : Option Addr} {len : Nat} {zs : List Int} (h : Mm.Els w a len zs) (hb : Below w.heap.size w w') : Mm.Els w' a len zs := by
  rcases h with h | ⟨x, h1, h2, h3⟩
  · exact Or.inl h
  · exact Or.inr ⟨x, h1, h2, fun i hi => (hb.cell (World.block_lt_of_cell? w _ (h3 i hi))).trans (h3 i hi)⟩
theorem Mm.Els.of_own {w : World} {B g len cp : Nat} {zs : List Int} (hz : zs.length = len) (h : w.ownsRow B 5 1 (.slice (some ⟨g, 0, none⟩) len cp) len (Mm.nv zs)) : Mm.Els w (some ⟨g, 0, none⟩) len zs :=
  Or.inr ⟨_, rfl, hz, fun i hi => h.cells rfl i _ (Mm.nv_at zs i hi)⟩
theorem Mm.Els.length {w : World} {a : Option Addr} {len : Nat} {zs : List Int} (h : Mm.Els w a len zs) : zs.length = len := by
  rcases h with ⟨_, rfl, rfl⟩ | ⟨_, _, h, _⟩
  · rfl
  · exact h
theorem Mm.Els.row {w : World} {a : Option Addr} {len : Nat} {zs : List Int} (h : Mm.Els w a len zs) (hp : 0 < len) : ∃ b off, a = some ⟨b, off, none⟩ ∧ ∀ j, j < len → w.cell? ⟨b, off + j, none⟩ = some (.int .u8 (zs.getD j 0)) := by
  rcases h with ⟨_, h, _⟩ | ⟨x, rfl, h2, h3⟩
  · omega
  · obtain ⟨b, off, rfl, hc⟩ := ints_at h3 (by omega)
    exact ⟨b, off, rfl, fun j hj => hc j (by omega)⟩
theorem Els_copy {w : World} {a ao : Option Addr} {B g L cp : Nat} {zs : List Int} (hz : zs.length = L) (h : (a = none ∧ ao = none ∧ cp = 0) ∨ (∃ x, a = some x) ∧ ao = some ⟨g, 0, none⟩ ∧ cp = L) (own : w.ownsRow B 5 1 (.slice ao L cp) L (Mm.nv zs)) : Mm.Els w ao L zs ∧ (ao = none → cp = 0) := by
  rcases h with ⟨_, rfl, rfl⟩ | ⟨_, rfl, rfl⟩
  · have h0 : L = 0 := by
      rcases own.2 with ⟨_, h⟩ | ⟨g, cap, cur, h, _⟩
      · exact h
      · cases h
    exact ⟨Or.inl ⟨rfl, h0, List.eq_nil_of_length_eq_zero (by omega)⟩, fun _ => rfl⟩
  · exact ⟨Mm.Els.of_own hz own, fun h => by cases h⟩

theorem getD_none {zs : List Int} {i : Nat} (h : zs.length ≤ i) : zs.getD i 0 = 0 := by simp [List.getD, h]

set_option maxHeartbeats 400000 in
theorem ver_any (w : World) (a : Option Addr) (L c : Nat) (zs : List Int) (v : Int) (b : Bool) (h : Mm.Els w a L zs) (hL : L ≤ 1048576) (hr : 0 ≤ zs.getD 0 0 ∧ zs.getD 0 0 ≤ 255) (hv : zs.getD 0 0 / 32 = v) (hb : decide (0 < L) = b) :
    Calls Try.prog 13 #[.slice a L c] w fun e w' => e = .returned (.tuple #[.int .i64 v, .bool b]) ∧ w = w' := by
  by_cases h0 : 0 < L
  · obtain ⟨bb, off, rfl, hc⟩ := h.row h0
    have q := hc 0 h0
    rw [Nat.add_zero] at q
    obtain ⟨x, hx⟩ : ∃ x, x = zs.getD 0 0 := ⟨_, rfl⟩
    rw [← hx] at q hr hv
    have hbt : b = true := by rw [← hb]; simpa using h0
    obtain ⟨r0, r1⟩ := hr
    have HV := (show Hid _ from hv)
    have HB := (show Hid _ from hbt)
    clear hc hx hb hbt hv
    go_enter Try.func13, Try.ntmps13
    go_wp2
    go_ret2
    exact ⟨by rw [← HV.out, HB.out]; rfl, rfl⟩
  · have e : L = 0 := by omega
    subst e
    have hz : zs.getD 0 0 = 0 := getD_none (by rw [h.length]; exact Nat.le_refl _)
    have hv0 : v = 0 := by rw [← hv, hz]; rfl
    have hbf : b = false := by rw [← hb]; simp
    clear hv hb hr
    go_enter Try.func13, Try.ntmps13
    go_wp2
    go_ret2
    exact ⟨by rw [hv0, hbf]; rfl, rfl⟩

set_option maxHeartbeats 400000 in
theorem typ_any (w : World) (a : Option Addr) (L c : Nat) (zs : List Int) (v : Int) (b : Bool) (h : Mm.Els w a L zs) (hL : L ≤ 1048576) (hv : zs.getD 1 0 = v) (hb : decide (2 ≤ L) = b) :
    Calls Try.prog 14 #[.slice a L c] w fun e w' => e = .returned (.tuple #[.int .u8 v, .bool b]) ∧ w = w' := by
  by_cases h0 : 2 ≤ L
  · obtain ⟨bb, off, rfl, hc⟩ := h.row (by omega)
    have q := hc 1 (by omega)
    rw [hv] at q
    have hbt : b = true := by rw [← hb]; simpa using h0
    have HB := (show Hid _ from hbt)
    clear hc hb hbt hv
    go_enter Try.func14, Try.ntmps14
    go_wp2
    go_ret2
    exact ⟨by rw [HB.out]; rfl, rfl⟩
  · have hz : zs.getD 1 0 = 0 := getD_none (by rw [h.length]; omega)
    have hv0 : v = 0 := by rw [← hv, hz]
    have hbf : b = false := by rw [← hb]; simp; omega
    clear hv hb
    go_enter Try.func14, Try.ntmps14
    go_wp2
    go_ret2
    exact ⟨by rw [hv0, hbf]; rfl, rfl⟩

theorem set_join (xs zs es : List Int) (k : Nat) (h : xs.take (zs.length + k) = (zs ++ es).take (zs.length + k)) (hk : k < es.length) (hx : xs.length = zs.length + es.length) : (xs.set (zs.length + k) (es.getD k 0)).take (zs.length + (k + 1)) = (zs ++ es).take (zs.length + (k + 1)) := by
  have e : es.getD k 0 = (zs ++ es).getD (zs.length + k) 0 := by
    simp only [List.getD]
    rw [List.getElem?_append_right (by omega), Nat.add_sub_cancel_left]
  rw [e, ← Nat.add_assoc]
  exact set_take xs (zs ++ es) (zs.length + k) h (by simp; omega) (by omega)

set_option maxHeartbeats 800000 in
theorem concat_any (w : World) (a0 a1 : Option Addr) (L m c0 c1 : Nat) (zs es : List Int) (hL : L ≤ 65536) (hm : m ≤ 65536) (h0 : Mm.Els w a0 L zs) (h1 : Mm.Els w a1 m es) :
    Calls Try.prog 15 #[.slice a0 L c0, .slice a1 m c1] w fun e w' => e = .returned (.slice (some ⟨w.heap.size, 0, none⟩) (L + m) (L + m)) ∧ w'.ownsRow w.heap.size 5 1 (.slice (some ⟨w.heap.size, 0, none⟩) (L + m) (L + m)) (L + m) (Mm.nv (zs ++ es)) ∧ Below w.heap.size w w' := by
  obtain ⟨i0, hi, hz0, hz1, hz2⟩ := info_parts Try.inf5
  have HZ := (show Hid _ from h0.length)
  have HE := (show Hid _ from h1.length)
  go_enter Try.func15, Try.ntmps15
  go_wp2_with (at_make; refine wpList_make_full _ rfl _ _ 23 rfl w.heap.size 5 i0 (.int .u8 0) 1 Try.underlying23 hi hz0 hz1 _ _ _ _ (L + m) rfl rfl ?b0 ?b1 ?b2 ?b3 (Nat.le_refl _) ?_)
  case b0 => omega
  case b1 => omega
  case b2 => rw [hz2]; omega
  case b3 => unfold maxLen; omega
  intro w0 hown0 hgrow0
  go_wp2
  go_loopw [6] (fun i wr => ∃ (k : Nat) (xs : List Int), k ≤ L ∧ i = .int .i64 k ∧ xs.length = L + m ∧ xs.take k = zs.take k ∧ wr.ownsRow w.heap.size 5 1 (.slice (some ⟨w.heap.size, 0, none⟩) (L + m) (L + m)) (L + m) (Mm.nv xs) ∧ Below w.heap.size w wr) (fun i _ => L - (intOf i).toNat)
  case atStart =>
    refine ⟨0, List.replicate (L + m) 0, Nat.zero_le _, rfl, by simp, rfl, ?_, (Below.refl _ _).grown hgrow0 (Nat.le_refl _) (fun k h => by cases h)⟩
    have e : (madeCells #[Value.int .u8 0] (L + m)).toList = Mm.nv (List.replicate (L + m) 0) := by
      rw [toList_madeCells_one]; simp [Mm.nv]
    rw [← e]; exact hown0
  case round =>
    obtain ⟨k, xs, hk, rfl, hxl, htk, hown, hnx⟩ := hrel
    have HT := (show Hid _ from htk)
    have HX := (show Hid _ from hxl)
    clear hown0
    by_cases hlt : k < L
    · obtain ⟨b, off, rfl, hcell⟩ := h0.row (by omega)
      have hb : b < w.heap.size := World.block_lt_of_cell? w _ (hcell 0 (by omega))
      have hs : wr.cell? ⟨b, off + k, none⟩ = some (.int .u8 (zs.getD k 0)) := (hnx.cell (by exact hb)).trans (hcell k hlt)
      have hd : wr.cell? ⟨w.heap.size, k, none⟩ = some (.int .u8 (xs.getD k 0)) := (hown.cellAt k (by omega)).trans (Mm.nv_at xs k (by omega))
      have hf := hown.frozenAt k
      clear htk hxl hcell
      go_wp2
      go_roundw
      case rel =>
        have R := (hown.stored k (.int .u8 (zs.getD k 0))).1
        rw [Mm.nv_set] at R
        exact ⟨k + 1, xs.set k (zs.getD k 0), by omega, by go_num, by simp; exact HX.out, set_take xs zs k HT.out (by rw [HZ.out]; exact hlt) (by rw [HX.out]; omega), R, hnx.setCell (Nat.le_refl _) _⟩
      case measure => simp [intOf]; omega
    · have hkL : k = L := by omega
      subst hkL
      clear htk hxl
      have HJ : Hid (xs.take (zs.length + 0) = (zs ++ es).take (zs.length + 0)) := by
        have := HT.out
        show xs.take (zs.length + 0) = (zs ++ es).take (zs.length + 0)
        rw [Nat.add_zero, HZ.out, this, List.take_append_of_le_length (by rw [HZ.out]; exact Nat.le_refl _)]
      go_wp2
      go_loopw [7] (fun i wr => ∃ (j : Nat) (ys : List Int), j ≤ m ∧ i = .int .i64 j ∧ ys.length = k + m ∧ ys.take (zs.length + j) = (zs ++ es).take (zs.length + j) ∧ wr.ownsRow w.heap.size 5 1 (.slice (some ⟨w.heap.size, 0, none⟩) (k + m) (k + m)) (k + m) (Mm.nv ys) ∧ Below w.heap.size w wr) (fun i _ => m - (intOf i).toNat)
      case atStart => exact ⟨0, xs, Nat.zero_le _, rfl, HX.out, HJ.out, hown, hnx⟩
      case round =>
        clear hown hnx HJ HT HX
        obtain ⟨j, ys, hj, rfl, hyl, hty, hown, hnx⟩ := hrel
        have HT := (show Hid _ from hty)
        have HX := (show Hid _ from hyl)
        by_cases hlt2 : j < m
        · obtain ⟨b, off, rfl, hcell⟩ := h1.row (by omega)
          have hb : b < w.heap.size := World.block_lt_of_cell? w _ (hcell 0 (by omega))
          have hs : wr.cell? ⟨b, off + j, none⟩ = some (.int .u8 (es.getD j 0)) := (hnx.cell (by exact hb)).trans (hcell j hlt2)
          have hd : wr.cell? ⟨w.heap.size, k + j, none⟩ = some (.int .u8 (ys.getD (k + j) 0)) := (hown.cellAt (k + j) (by omega)).trans (Mm.nv_at ys (k + j) (by omega))
          have hf := hown.frozenAt (k + j)
          clear hty hyl hcell
          go_wp2
          go_roundw
          case rel =>
            have R := (hown.stored (k + j) (.int .u8 (es.getD j 0))).1
            rw [Mm.nv_set] at R
            have S := set_join ys zs es j HT.out (by rw [HE.out]; exact hlt2) (by rw [HX.out, HZ.out, HE.out])
            rw [HZ.out] at S
            exact ⟨j + 1, ys.set (k + j) (es.getD j 0), by omega, by go_num, by simp; exact HX.out, by rw [HZ.out]; exact S, R, hnx.setCell (Nat.le_refl _) _⟩
          case measure => simp [intOf]; omega
        · have e : ys = zs ++ es := by
            have h := HT.out
            rw [List.take_of_length_le (by rw [HX.out, HZ.out]; omega), List.take_of_length_le (by rw [List.length_append, HZ.out, HE.out]; omega)] at h
            exact h
          rw [e] at hown
          clear hty hyl
          go_wp2
          go_ret
          exact ⟨rfl, hown, hnx⟩
end Go.Proofs.Qxb6003309a
