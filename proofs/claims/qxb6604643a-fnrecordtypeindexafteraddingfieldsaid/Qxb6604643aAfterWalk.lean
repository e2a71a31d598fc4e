import Derived.Test.Qxb6604643aFirstWalk
namespace Go.Proofs.Qxb6604643a
open Go.RowKit

theorem SBlock.set {w : World} {g k : Nat} {ss : List ByteArray} (h : SBlock w g ss) (s : ByteArray) : SBlock (w.setCell ⟨g, k, none⟩ (.string s)) g (ss.set k s) := by
  unfold SBlock at *
  rw [heap_setCell_same w g k _ 9 _ h]
  simp [strv, List.map_set]
theorem SBlock.cell {w : World} {g k : Nat} {ss : List ByteArray} (h : SBlock w g ss) (hk : k < ss.length) : w.cell? ⟨g, k, none⟩ = some (.string (ss.getD k ByteArray.empty)) := by
  rw [cell_of_row w g k _ 9 (0, 0) h]
  simpa using strv_at ss k hk
theorem SBlock.frozen {w : World} {g k : Nat} {ss : List ByteArray} (h : SBlock w g ss) : w.frozen? ⟨g, k, none⟩ = false := frozen_of_row w g k _ 9 h

theorem longer_is (ss : List ByteArray) (nm : ByteArray) (L : Nat) (h : ss.length = L) : (splice (List.replicate (L + 1) ByteArray.empty) 0 ss).set L nm = ss ++ [nm] := by
  subst h
  simp [splice]
theorem front_is (ss : List ByteArray) (nm : ByteArray) (L : Nat) (h : ss.length = L) : splice ((List.replicate (L + 1) ByteArray.empty).set 0 nm) 1 ss = nm :: ss := by
  subst h
  simp [splice, List.replicate_succ]
  omega

theorem idx_front {ss : List ByteArray} {nm : ByteArray} {r : Int} (h : Idx (nm :: ss) nm r) : r = 0 := by
  rcases h with ⟨_, h⟩ | ⟨k, hk, rfl, _, h⟩
  · exact absurd rfl (h 0 (by simp))
  · by_cases h0 : k = 0
    · rw [h0]; rfl
    · exact absurd rfl (h 0 (by omega))
theorem getD_old (ss : List ByteArray) (nm : ByteArray) (i : Nat) (h : i < ss.length) : (ss ++ [nm]).getD i ByteArray.empty = ss.getD i ByteArray.empty := by
  simp only [List.getD]
  rw [List.getElem?_append_left h]
theorem getD_new (ss : List ByteArray) (nm : ByteArray) : (ss ++ [nm]).getD ss.length ByteArray.empty = nm := by
  simp [List.getD]
theorem idx_longer_none {ss : List ByteArray} {nm : ByteArray} {r : Int} (hn : ∀ i, i < ss.length → ss.getD i ByteArray.empty ≠ nm) (h : Idx (ss ++ [nm]) nm r) : r = (ss.length : Int) := by
  rcases h with ⟨_, h⟩ | ⟨k, hk, rfl, he, h⟩
  · exact absurd (getD_new ss nm) (h ss.length (by simp))
  · rw [List.length_append, List.length_singleton] at hk
    by_cases h0 : k < ss.length
    · rw [getD_old ss nm k h0] at he
      exact absurd he (hn k h0)
    · omega
theorem idx_longer_some {ss : List ByteArray} {nm : ByteArray} {r : Int} {k : Nat} (hk : k < ss.length) (he : ss.getD k ByteArray.empty = nm) (hn : ∀ i, i < k → ss.getD i ByteArray.empty ≠ nm) (h : Idx (ss ++ [nm]) nm r) : r = (k : Int) := by
  rcases h with ⟨_, h⟩ | ⟨j, hj, rfl, he2, h⟩
  · exact absurd (getD_new ss nm) (h ss.length (by simp))
  · by_cases h1 : j < k
    · rw [getD_old ss nm j (by omega)] at he2
      exact absurd he2 (hn j h1)
    · by_cases h2 : k < j
      · have := h k h2
        rw [getD_old ss nm k hk] at this
        exact absurd he this
      · omega

set_option maxHeartbeats 800000 in
theorem after_any (w : World) (rn nm : ByteArray) (a : Option Addr) (L c : Nat) (ss : List ByteArray) (hL : ss.length = L) (hc : a = none → L = 0 ∧ c = 0) (hrow : SRow w a ss) (hm : L ≤ maxLen) (hrn : rn.size ≤ maxLen) (hnm : nm.size ≤ maxLen) :
    Calls Try.prog 4 #[.string rn, .slice a L c, .string nm] w fun e w' => e = .returned (.bool true) ∧ Below w.heap.size w w' := by
  obtain ⟨i0, hi, hz0, hz1, hz2⟩ := info_parts Try.inf9
  go_enter Try.func4, Try.ntmps4
  go_wp2_with fail
  refine (zzb10 w rn nm a L c ss hL hrow hm hrn hnm).mono ?_
  rintro e w' ⟨he, rfl⟩
  rcases he with rfl | rfl
  · go_wp2
    go_ret
    exact ⟨rfl, Below.refl _ _⟩
  go_wp2_with fail
  refine (sizeok w rn nm a L c ss hL hrow hm hrn hnm).mono ?_
  rintro e w' ⟨he, rfl⟩
  rcases he with rfl | ⟨rfl, hm2⟩
  · go_wp2
    go_ret
    exact ⟨rfl, Below.refl _ _⟩
  go_wp2_with fail
  refine (clone_any w a L c ss hL hm2 hc hrow).mono ?_
  rintro e w1 ⟨ao, cp, rfl, row1, bel1⟩
  go_wp2_with fail
  refine (rec_any w1 rn ao L cp ss hL (by omega) row1).mono ?_
  rintro e w2 ⟨R, rfl, hR, own2, bel2⟩
  go_wp2_with fail
  refine (index_any w2 R w1.heap.size L nm ss hL (by omega) hR (own35_zero own2)).mono ?_
  rintro e w3 ⟨r, rfl, hidx, bel3⟩
  have s1 := bel1.size
  have s2 := bel2.size
  have bel : Below w.heap.size w w3 := (bel1.trans (bel2.mono s1)).trans (bel3.mono (by omega))
  have row3 : SRow w3 ao ss := row1.below (bel2.trans (bel3.mono s2))
  have HI := (show Hid _ from hidx)
  clear hR own2 bel1 bel2 bel3 hrow row1 hc hidx hm
  go_wp2_with (at_make; refine wpList_make_full _ rfl _ _ 22 rfl w3.heap.size 9 i0 (.string ByteArray.empty) 1 Try.underlying22 hi hz0 hz1 _ _ _ _ (L + 1) rfl rfl ?b0 ?b1 ?b2 ?b3 (Nat.le_refl _) ?_)
  case b0 => omega
  case b1 => omega
  case b2 => rw [hz2]; omega
  case b3 => unfold maxLen; omega
  intro w4 hown4 hgrow4
  have bel4 : Below w3.heap.size w3 w4 := (Below.refl _ _).grown hgrow4 (Nat.le_refl _) (fun k h => by cases h)
  have blk4 : SBlock w4 w3.heap.size (List.replicate (L + 1) ByteArray.empty) := SBlock.of_own (by rw [← made_strs]; exact hown4)
  have row4 := row3.below bel4
  obtain ⟨w5, hrun5, blk5, belx⟩ := run_copy_strs w4 (some ⟨w3.heap.size, 0, none⟩) ao L (L + 1) (L + 1) cp w3.heap.size 0 ss (List.replicate (L + 1) ByteArray.empty) hL (by omega) blk4 (by simp) (fun _ => rfl) row4
  have bel5 := bel4.trans (belx _ (Nat.le_refl _))
  have q5 := blk5.cell (k := L) (by rw [length_splice _ _ _ (by simp; omega)]; simp)
  have f5 := blk5.frozen (k := L)
  have blk5b := blk5.set (k := L) nm
  rw [longer_is ss nm L hL] at blk5b
  have bel5b : Below w3.heap.size w3 (w5.setCell ⟨w3.heap.size, L, none⟩ (.string nm)) := bel5.setCell (Nat.le_refl _) _
  have row5 := row3.below bel5b
  clear hown4 hgrow4 bel4 blk4 row4 belx blk5 bel5
  go_wp2_with (at_make; refine wpList_make_full _ rfl _ _ 22 rfl w5.heap.size 9 i0 (.string ByteArray.empty) 1 Try.underlying22 hi hz0 hz1 _ _ _ _ (L + 1) rfl rfl ?b0 ?b1 ?b2 ?b3 ?b4 ?_)
  case b0 => omega
  case b1 => omega
  case b2 => rw [hz2]; omega
  case b3 => unfold maxLen; omega
  case b4 => simp
  intro w6 hown6 hgrow6
  have bel6 : Below w5.heap.size (w5.setCell ⟨w3.heap.size, L, none⟩ (.string nm)) w6 := (Below.refl _ _).grown hgrow6 (by simp) (fun k h => by cases h)
  have blk6 : SBlock w6 w5.heap.size (List.replicate (L + 1) ByteArray.empty) := SBlock.of_own (B := w5.heap.size) (n := L + 1) (by rw [← made_strs]; simpa using hown6)
  have q6 := blk6.cell (k := 0) (by simp)
  have f6 := blk6.frozen (k := 0)
  have blk6b := blk6.set (k := 0) nm
  have bel6b : Below w5.heap.size (w5.setCell ⟨w3.heap.size, L, none⟩ (.string nm)) (w6.setCell ⟨w5.heap.size, 0, none⟩ (.string nm)) := bel6.setCell (Nat.le_refl _) _
  have row6 : SRow (w6.setCell ⟨w5.heap.size, 0, none⟩ (.string nm)) ao ss := row5.below (by simpa using bel6b)
  have s3 := bel.size
  have s5 : w3.heap.size < w5.heap.size := by have := blk5b.lt; simpa using this
  have blk5c := blk5b.below bel6b s5
  clear hown6 hgrow6 bel6 blk6 row5 blk5b q5 f5
  rcases Nat.eq_zero_or_pos L with h0 | h0
  · subst h0
    obtain ⟨w8, hrun8, blk8, bely⟩ := run_copy_strs (w6.setCell ⟨w5.heap.size, 0, none⟩ (.string nm)) (some ⟨w5.heap.size, 0, none⟩) ao 0 0 0 cp w5.heap.size 1 ss _ hL (by omega) blk6b (by simp) (fun h => absurd h (by omega)) row6
    have bel8 : Below w5.heap.size (w5.setCell ⟨w3.heap.size, _, none⟩ (.string nm)) w8 := bel6b.trans (bely _ (Nat.le_refl _))
    have long8 := blk5c.below (bely _ (Nat.le_refl _)) s5
    rw [front_is ss nm _ hL] at blk8
    have row8 : SRow w8 ao ss := row3.below (bel5b.trans (bel8.mono (by omega)))
    have belw8 : Below w.heap.size w w8 := bel.trans ((bel5b.trans (bel8.mono (by omega))).mono s3)
    clear blk6b bel6b row6 bel5b bely row3 blk5c
    go_wp2_with fail
    refine (rec_any w8 rn _ 1 _ (ss ++ [nm]) (by rw [List.length_append, hL]; rfl) (by omega) long8.row).mono ?_
    rintro e w9 ⟨R9, rfl, hR9, own9, bel9⟩
    go_wp2_with fail
    refine (index_any w9 R9 w8.heap.size 1 nm (ss ++ [nm]) (by rw [List.length_append, hL]; rfl) (by omega) hR9 (own35_zero own9)).mono ?_
    rintro e w10 ⟨r2, rfl, hidx2, bel10⟩
    have s8 := bel9.size
    have belA := bel9.trans (bel10.mono s8)
    have front10 := blk8.below belA blk8.lt
    go_wp2_with fail
    refine (rec_any w10 rn _ 1 _ (nm :: ss) (by rw [List.length_cons, hL]) (by omega) front10.row).mono ?_
    rintro e w11 ⟨R11, rfl, hR11, own11, bel11⟩
    go_wp2_with fail
    refine (index_any w11 R11 w10.heap.size 1 nm (nm :: ss) (by rw [List.length_cons, hL]) (by omega) hR11 (own35_zero own11)).mono ?_
    rintro e w12 ⟨r3, rfl, hidx3, bel12⟩
    have s10 := bel10.size
    have s11 := bel11.size
    have s88 := belw8.size
    have belB : Below w8.heap.size w8 w12 := belA.trans ((bel11.trans (bel12.mono s11)).mono (by omega))
    have row12 := row8.below belB
    have belE : Below w.heap.size w w12 := belw8.trans (belB.mono s88)
    have e3 := idx_front hidx3
    subst e3
    clear hidx3 belA belB row8 belw8 bel9 bel10 bel11 bel12 own9 own11 hR9 hR11 front10 long8 blk8 bel8
    rcases HI.out with ⟨rfl, hne⟩ | ⟨k, hk, rfl, heq, hne⟩
    · have e2 := idx_longer_none hne hidx2
      subst e2
      have HN := (show Hid _ from hne)
      clear hne hidx2 row12
      go_wp2
      go_ret
      exact ⟨by simp, belE⟩
    · exact absurd hk (by omega)
  · obtain ⟨w8, hrun8, blk8, bely⟩ := run_copy_strs (w6.setCell ⟨w5.heap.size, 0, none⟩ (.string nm)) (some ⟨w5.heap.size, 1, none⟩) ao L L L cp w5.heap.size 1 ss _ hL (by omega) blk6b (by simp; omega) (fun _ => rfl) row6
    have bel8 : Below w5.heap.size (w5.setCell ⟨w3.heap.size, _, none⟩ (.string nm)) w8 := bel6b.trans (bely _ (Nat.le_refl _))
    have long8 := blk5c.below (bely _ (Nat.le_refl _)) s5
    rw [front_is ss nm _ hL] at blk8
    have row8 : SRow w8 ao ss := row3.below (bel5b.trans (bel8.mono (by omega)))
    have belw8 : Below w.heap.size w w8 := bel.trans ((bel5b.trans (bel8.mono (by omega))).mono s3)
    clear blk6b bel6b row6 bel5b bely row3 blk5c
    go_wp2_with fail
    refine (rec_any w8 rn _ (L + 1) _ (ss ++ [nm]) (by rw [List.length_append, hL]; rfl) (by omega) long8.row).mono ?_
    rintro e w9 ⟨R9, rfl, hR9, own9, bel9⟩
    go_wp2_with fail
    refine (index_any w9 R9 w8.heap.size (L + 1) nm (ss ++ [nm]) (by rw [List.length_append, hL]; rfl) (by omega) hR9 (own35_zero own9)).mono ?_
    rintro e w10 ⟨r2, rfl, hidx2, bel10⟩
    have s8 := bel9.size
    have belA := bel9.trans (bel10.mono s8)
    have front10 := blk8.below belA blk8.lt
    go_wp2_with fail
    refine (rec_any w10 rn _ (L + 1) _ (nm :: ss) (by rw [List.length_cons, hL]) (by omega) front10.row).mono ?_
    rintro e w11 ⟨R11, rfl, hR11, own11, bel11⟩
    go_wp2_with fail
    refine (index_any w11 R11 w10.heap.size (L + 1) nm (nm :: ss) (by rw [List.length_cons, hL]) (by omega) hR11 (own35_zero own11)).mono ?_
    rintro e w12 ⟨r3, rfl, hidx3, bel12⟩
    have s10 := bel10.size
    have s11 := bel11.size
    have s88 := belw8.size
    have belB : Below w8.heap.size w8 w12 := belA.trans ((bel11.trans (bel12.mono s11)).mono (by omega))
    have row12 := row8.below belB
    have belE : Below w.heap.size w w12 := belw8.trans (belB.mono s88)
    have e3 := idx_front hidx3
    subst e3
    clear hidx3 belA belB row8 belw8 bel9 bel10 bel11 bel12 own9 own11 hR9 hR11 front10 long8 blk8 bel8
    rcases HI.out with ⟨rfl, hne⟩ | ⟨k, hk, rfl, heq, hne⟩
    · have e2 := idx_longer_none hne hidx2
      subst e2
      have HN := (show Hid _ from hne)
      clear hne hidx2 row12
      go_wp2
      go_ret
      exact ⟨by simp, belE⟩
    · have e2 := idx_longer_some hk heq hne hidx2
      subst e2
      obtain ⟨b, off, rfl, hcell⟩ := row12 (by omega)
      have q := hcell k hk
      rw [heq] at q
      have hkL : (k : Int) < (ss.length : Int) := by omega
      rw [hL] at hkL
      clear hne hidx2 hcell heq HI
      go_wp2
      go_ret
      exact ⟨by simp, belE⟩
end Go.Proofs.Qxb6604643a
