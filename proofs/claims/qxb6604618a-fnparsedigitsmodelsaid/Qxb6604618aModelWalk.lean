import Derived.Test.Qxb6604618aPdWalk
import Derived.Test.Qxb6604618aPlainW
namespace Go.Proofs.Qxb6604618a
open Go.RowKit

theorem zzpd_yes (s : ByteArray) (w : World) (hs : s.size ≤ 1048576) (h : Pd.allD s.data.toList = true) :
    Calls Try.prog 7 #[.string s] w fun e w' => e = .returned (.tuple #[.int .i64 (Pd.pv s.data.toList), .bool true]) ∧ w' = w := by
  refine (zzpd_any s w (by unfold maxLen; omega)).mono ?_
  rintro e w' ⟨rfl, rfl⟩
  exact ⟨by rw [Pd.pn_of h, h], rfl⟩
theorem zzpd_no (s : ByteArray) (w : World) (hs : s.size ≤ 1048576) (h : Pd.allD s.data.toList = false) :
    Calls Try.prog 7 #[.string s] w fun e w' => e = .returned (.tuple #[.int .i64 0, .bool false]) ∧ w' = w := by
  refine (zzpd_any s w (by unfold maxLen; omega)).mono ?_
  rintro e w' ⟨rfl, rfl⟩
  exact ⟨by rw [Pd.pn_not h, h], rfl⟩

set_option maxHeartbeats 400000 in
theorem model_big (s : ByteArray) (w : World) (hs : s.size ≤ maxLen) (hb : 1048576 < s.size) :
    Calls Try.prog 3 #[.string s] w fun e w' => e = .returned (.bool true) ∧ w' = w := by
  unfold maxLen at hs
  go_enter Try.func3, Try.ntmps3
  go_wp2
  go_ret
  exact ⟨rfl, rfl⟩

set_option maxHeartbeats 400000 in
theorem model_no (s : ByteArray) (w : World) (hs : s.size ≤ 1048576) (hA : Hid (Pd.allD s.data.toList = false)) :
    Calls Try.prog 3 #[.string s] w fun e w' => e = .returned (.bool true) ∧ w' = w := by
  go_enter Try.func3, Try.ntmps3
  go_wp2_with (first | (go_at_call 7; refine (zzpd_no _ _ hs hA.out).mono ?_; rintro e w' ⟨rfl, rfl⟩) | go_in)
  go_loop [5, 6] (fun al i => ∃ k : Nat, k ≤ s.size ∧ i = .int .i64 k ∧ Pd.allD (s.data.toList.take k) = true ∧ al = .bool true) (fun _ i => s.size - (intOf i).toNat)
  case atStart => exact ⟨0, Nat.zero_le _, rfl, rfl, rfl⟩
  case round =>
    obtain ⟨k, hk, rfl, hall, rfl⟩ := hrel
    have HA : Hid (Pd.allD (s.data.toList.take k) = true) := hall
    clear hall
    by_cases hlt : k < s.size
    · have HT : Hid (s.data.toList.take (k + 1) = s.data.toList.take k ++ [s[k]]) := Pd.take_snoc s k hlt
      by_cases h1 : 48 ≤ (s[k].toNat : Int)
      · by_cases h2 : (s[k].toNat : Int) ≤ 57
        · go_wp2
          go_round
          case rel => exact ⟨k + 1, by omega, by go_num, by rw [HT.out, Pd.allD_snoc, HA.out, Pd.isD_of h1 h2]; rfl, rfl⟩
          case measure => simp [intOf]; omega
        · go_wp2
          go_ret
          exact ⟨rfl, rfl⟩
      · go_wp2
        go_ret
        exact ⟨rfl, rfl⟩
    · exfalso
      have := HA.out
      rw [Pd.take_all s k (by omega), hA.out] at this
      exact absurd this (by simp)

theorem bool_eq {a b : Int} (h : a = b) : Ending.returned (.bool (a == b)) = .returned (.bool true) := by rw [h]; simp

set_option maxHeartbeats 400000 in
theorem model_yes (s : ByteArray) (w : World) (hs : s.size ≤ 1048576) (hA : Hid (Pd.allD s.data.toList = true)) :
    Calls Try.prog 3 #[.string s] w fun e w' => e = .returned (.bool true) ∧ w' = w := by
  go_enter Try.func3, Try.ntmps3
  go_wp2_with (first | (go_at_call 7; refine (zzpd_yes _ _ hs hA.out).mono ?_; rintro e w' ⟨rfl, rfl⟩) | go_in)
  go_loop [5, 6] (fun al i => ∃ k : Nat, k ≤ s.size ∧ i = .int .i64 k ∧ al = .bool true) (fun _ i => s.size - (intOf i).toNat)
  case atStart => exact ⟨0, Nat.zero_le _, rfl, rfl⟩
  case round =>
    obtain ⟨k, hk, rfl, rfl⟩ := hrel
    by_cases hlt : k < s.size
    · obtain ⟨h1, h2⟩ := Pd.isD_at hA.out k hlt
      go_wp2
      go_round
      case rel => exact ⟨k + 1, by omega, by go_num, rfl⟩
      case measure => simp [intOf]; omega
    · go_wp2
      go_loop [7, 8, 9] (fun wt p i => ∃ k : Nat, k ≤ s.size ∧ i = .int .i64 ((k : Int) - 1) ∧ p = .int .i64 (Pd.pw (s.size - k)) ∧ wt = .int .i64 (Pd.wnt (s.data.toList.drop k))) (fun _ _ i => (intOf i + 1).toNat)
      case atStart =>
        refine ⟨s.size, Nat.le_refl _, rfl, ?_, ?_⟩
        · rw [Nat.sub_self]; rfl
        · rw [List.drop_eq_nil_of_le (by simp)]; rfl
      case round =>
        obtain ⟨k, hk, rfl, rfl, rfl⟩ := hrel
        by_cases h0 : k = 0
        · subst h0
          go_wp2
          go_ret
          exact ⟨bool_eq (by first | rw [Pd.pv_wnt] | rw [List.drop_zero, Pd.pv_wnt]), rfl⟩
        · obtain ⟨j, rfl⟩ : ∃ j, k = j + 1 := ⟨k - 1, by omega⟩
          have hj : j < s.size := by omega
          obtain ⟨h1, h2⟩ := Pd.isD_at hA.out j hj
          go_wp2
          go_round
          case rel => exact ⟨j, by omega, by go_num, by rw [Pd.pw_step _ _ hj], by rw [Pd.wnt_step s j hj]⟩
          case measure => simp [intOf]

theorem model_any (s : ByteArray) (w : World) (hs : s.size ≤ maxLen) :
    Calls Try.prog 3 #[.string s] w fun e w' => e = .returned (.bool true) ∧ w' = w := by
  by_cases h : 1048576 < s.size
  · exact model_big s w hs h
  · cases hA : Pd.allD s.data.toList with
    | true => exact model_yes s w (by omega) hA
    | false => exact model_no s w (by omega) hA
end Go.Proofs.Qxb6604618a
