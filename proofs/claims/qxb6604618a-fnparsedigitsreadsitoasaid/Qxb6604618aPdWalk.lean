import Derived.Test.Qxb6604618aRows
import Derived.WalkKit
import Derived.WalkSpells
import Derived.WalkLawsBesides
import Derived.Test.Qxb6604618aPlain
namespace Go.Proofs.Qxb6604618a
open Go.RowKit

set_option maxHeartbeats 400000 in
theorem pd_any (s : ByteArray) (w : World) (hs : s.size ≤ maxLen) :
    Calls Try.prog 15 #[.string s] w fun e w' => e = .returned (.tuple #[.int .i64 (Pd.pn s.data.toList), .bool (Pd.allD s.data.toList)]) ∧ w' = w := by
  unfold maxLen at hs
  go_enter Try.func15, Try.ntmps15
  go_wp2
  go_loop [4, 5] (fun n i => ∃ k : Nat, k ≤ s.size ∧ i = .int .i64 k ∧ Pd.allD (s.data.toList.take k) = true ∧ n = .int .i64 (Pd.pv (s.data.toList.take k))) (fun _ i => s.size - (intOf i).toNat)
  case atStart => exact ⟨0, Nat.zero_le _, rfl, rfl, rfl⟩
  case round =>
    obtain ⟨k, hk, rfl, hall, rfl⟩ := hrel
    have HA : Hid (Pd.allD (s.data.toList.take k) = true) := hall
    clear hall
    by_cases hlt : k < s.size
    · have HT : Hid (s.data.toList.take (k + 1) = s.data.toList.take k ++ [s[k]]) := Pd.take_snoc s k hlt
      by_cases h1 : 48 ≤ (s[k].toNat : Int)
      · by_cases h2 : (s[k].toNat : Int) ≤ 57
        · go_wp2
          go_round
          case rel => exact ⟨k + 1, by omega, by go_num, by rw [HT.out, Pd.allD_snoc, HA.out, Pd.isD_of h1 h2]; rfl, by rw [HT.out, Pd.pv_snoc]; rfl⟩
          case measure => simp [intOf]; omega
        · go_wp2
          go_ret2
          have hf : Pd.allD s.data.toList = false := Pd.allD_take (k := k + 1) (by rw [HT.out, Pd.allD_snoc, Pd.isD_not (Or.inr (by omega))]; simp)
          exact ⟨by rw [Pd.pn_not hf, hf]; rfl, rfl⟩
      · go_wp2
        go_ret2
        have hf : Pd.allD s.data.toList = false := Pd.allD_take (k := k + 1) (by rw [HT.out, Pd.allD_snoc, Pd.isD_not (Or.inl (by omega))]; simp)
        exact ⟨by rw [Pd.pn_not hf, hf]; rfl, rfl⟩
    · go_wp2
      go_ret2
      have ht : s.data.toList.take k = s.data.toList := Pd.take_all s k (by omega)
      have ha := HA.out
      rw [ht] at ha
      exact ⟨by rw [ht, Pd.pn_of ha, ha]; rfl, rfl⟩

set_option maxHeartbeats 400000 in
theorem zzpd_any (s : ByteArray) (w : World) (hs : s.size ≤ maxLen) :
    Calls Try.prog 7 #[.string s] w fun e w' => e = .returned (.tuple #[.int .i64 (Pd.pn s.data.toList), .bool (Pd.allD s.data.toList)]) ∧ w' = w := by
  go_enter Try.func7, Try.ntmps7
  go_wp2_with (go_at_call 15; refine (pd_any _ _ hs).mono ?_; rintro e w' ⟨rfl, rfl⟩)
  go_ret2
  exact ⟨rfl, rfl⟩
end Go.Proofs.Qxb6604618a
