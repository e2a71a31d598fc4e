import Derived.Test.Qxb6604643aRec
import Derived.OpenShut
namespace Go.Proofs.Qxb6604643a
open Go.RowKit

theorem clone_any (w : World) (a : Option Addr) (L c : Nat) (ss : List ByteArray) (hL : ss.length = L) (hm : L ≤ 65536) (hc : a = none → L = 0 ∧ c = 0) (hrow : SRow w a ss) :
    Calls Try.prog 7 #[.slice a L c] w fun e w' => ∃ ao cp, e = .returned (.slice ao L cp) ∧ SRow w' ao ss ∧ Below w.heap.size w w' := by
  rcases a with _ | x
  · obtain ⟨rfl, rfl⟩ := hc rfl
    refine (clone_nil w).mono ?_
    rintro e w' ⟨rfl, rfl⟩
    exact ⟨none, 0, rfl, hrow, Below.refl _ _⟩
  · refine (clone_some w x L c ss hL hm hrow).mono ?_
    rintro e w' ⟨rfl, h1, h2⟩
    exact ⟨_, _, rfl, h1.row, h2⟩

theorem strs_at {w : World} {a : Addr} {ss : List ByteArray} (h : ∀ i, i < ss.length → w.cell? (a.add i) = some (.string (ss.getD i ByteArray.empty))) (hp : 0 < ss.length) :
    ∃ b off, a = ⟨b, off, none⟩ ∧ ∀ j, j < ss.length → w.cell? ⟨b, off + j, none⟩ = some (.string (ss.getD j ByteArray.empty)) := by
  obtain ⟨b, off, spot⟩ := a
  have hspot : spot = none := by simpa [Addr.add] using World.cell?_spot (h 0 hp)
  subst hspot
  exact ⟨b, off, rfl, fun j hj => by rw [← Go.WideShapes.add_plain]; exact h j hj⟩

theorem own35_zero {w : World} {B : Nat} {v : Value} {n : Nat} {xs : List Value} (h : w.ownsRow B 35 7 v n xs) : w.ownsRow 0 35 7 v n xs := by
  obtain ⟨h1, h2⟩ := h
  refine ⟨h1, ?_⟩
  rcases h2 with h2 | ⟨g, cap, cur, hv, hg, r⟩
  · exact Or.inl h2
  · exact Or.inr ⟨g, cap, cur, hv, Nat.zero_le _, r⟩

set_option maxHeartbeats 800000 in
theorem first_any (w : World) (rn nm : ByteArray) (a : Option Addr) (L c : Nat) (ss : List ByteArray) (hL : ss.length = L) (hc : a = none → L = 0 ∧ c = 0) (hrow : SRow w a ss) (hm : L ≤ maxLen) (hrn : rn.size ≤ maxLen) (hnm : nm.size ≤ maxLen) :
    Calls Try.prog 3 #[.string rn, .slice a L c, .string nm] w fun e w' => e = .returned (.bool true) ∧ Below w.heap.size w w' := by
  go_enter Try.func3, Try.ntmps3
  go_wp2_with fail
  refine (zzb5 w rn nm a L c ss hL hrow hm hrn hnm).mono ?_
  rintro e w' ⟨he, rfl⟩
  rcases he with rfl | rfl
  · go_wp2
    go_ret
    exact ⟨rfl, Below.refl _ _⟩
  go_wp2_with fail
  refine (sizeok w rn nm a L c ss hL hrow hm hrn hnm).mono ?_
  rintro e w' ⟨he, rfl⟩
  rcases he with rfl | ⟨rfl, hm2⟩
  · go_wp2
    go_ret
    exact ⟨rfl, Below.refl _ _⟩
  go_wp2_with fail
  refine (clone_any w a L c ss hL hm2 hc hrow).mono ?_
  rintro e w1 ⟨ao, cp, rfl, row1, bel1⟩
  go_wp2_with fail
  refine (rec_any w1 rn ao L cp ss hL (by omega) row1).mono ?_
  rintro e w2 ⟨R, rfl, hR, own2, bel2⟩
  go_wp2_with fail
  refine (index_any w2 R w1.heap.size L nm ss hL (by omega) hR (own35_zero own2)).mono ?_
  rintro e w3 ⟨r, rfl, hidx, bel3⟩
  have s1 := bel1.size
  have s2 := bel2.size
  have bel : Below w.heap.size w w3 := (bel1.trans (bel2.mono s1)).trans (bel3.mono (by omega))
  have row3 : SRow w3 ao ss := row1.below (bel2.trans (bel3.mono s2))
  clear hR own2 bel1 bel2 bel3 hrow row1 hc
  rcases hidx with ⟨rfl, hne⟩ | ⟨k, hk, rfl, heq, hne⟩
  · have HN := (show Hid _ from hne)
    clear hne
    go_wp2
    go_loop [8] (fun i => ∃ k : Nat, k ≤ L ∧ i = .int .i64 k) (fun i => L - (intOf i).toNat)
    case atStart => exact ⟨0, Nat.zero_le _, rfl⟩
    case round =>
      obtain ⟨k, hk, rfl⟩ := hrel
      by_cases hlt : k < L
      · obtain ⟨b, off, rfl, hcell⟩ := row3 (by omega)
        have q := hcell k (by omega)
        have hf := seq_ne (HN.out k (by omega))
        obtain ⟨s, hs⟩ : ∃ s, s = ss.getD k ByteArray.empty := ⟨_, rfl⟩
        rw [← hs] at q hf
        clear hs hcell
        go_wp2
        go_round
        case rel => exact ⟨k + 1, by omega, by go_num⟩
        case measure => simp [intOf]; omega
      · go_wp2
        go_ret
        exact ⟨rfl, bel⟩
  · have HN := (show Hid _ from hne)
    have hkL : k < L := by omega
    obtain ⟨b, off, rfl, hcell⟩ := row3 (by omega)
    have HC := (show Hid _ from hcell)
    have q := hcell k hk
    rw [heq] at q
    clear hne heq hcell
    go_wp2
    go_loop [9] (fun i => ∃ j : Nat, j ≤ k ∧ i = .int .i64 j) (fun i => k - (intOf i).toNat)
    case atStart => exact ⟨0, Nat.zero_le _, rfl⟩
    case round =>
      obtain ⟨j, hj, rfl⟩ := hrel
      by_cases hlt : j < k
      · have q2 := HC.out j (by omega)
        have hf := seq_ne (HN.out j hlt)
        obtain ⟨s, hs⟩ : ∃ s, s = ss.getD j ByteArray.empty := ⟨_, rfl⟩
        rw [← hs] at q2 hf
        clear hs
        go_wp2
        go_round
        case rel => exact ⟨j + 1, by omega, by go_num⟩
        case measure => simp [intOf]; omega
      · go_wp2
        go_ret
        exact ⟨rfl, bel⟩
end Go.Proofs.Qxb6604643a
