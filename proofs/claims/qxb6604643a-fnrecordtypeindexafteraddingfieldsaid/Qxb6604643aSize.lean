import Derived.Test.Qxb6604643aRows
import Derived.WalkKit
import Derived.WalkSpells
import Derived.WalkLawsBesides
namespace Go.Proofs.Qxb6604643a
open Go.RowKit

/-- the elements of a slice of strings: where there is one, the slice leads to a row of them -/
def SRow (w : World) (a : Option Addr) (ss : List ByteArray) : Prop :=
  0 < ss.length → ∃ b off, a = some ⟨b, off, none⟩ ∧ ∀ j, j < ss.length → w.cell? ⟨b, off + j, none⟩ = some (.string (ss.getD j ByteArray.empty))

set_option maxHeartbeats 800000 in
theorem zzb5 (w : World) (rn nm : ByteArray) (a : Option Addr) (L c : Nat) (ss : List ByteArray) (hL : ss.length = L) (hrow : SRow w a ss) (hm : L ≤ maxLen) (hrn : rn.size ≤ maxLen) (hnm : nm.size ≤ maxLen) :
    Calls Try.prog 5 #[.string rn, .slice a L c, .string nm] w fun e w' => (e = .returned (.bool false) ∨ e = .returned (.bool true)) ∧ w = w' := by
  unfold maxLen at hm hrn hnm
  go_enter Try.func5, Try.ntmps5
  go_wp2
  all_goals first | (go_ret; first | exact ⟨Or.inl rfl, rfl⟩ | exact ⟨Or.inr rfl, rfl⟩) | skip
  go_loop [7, 8] (fun n i => ∃ (k : Nat) (t : Int), k ≤ L ∧ i = .int .i64 k ∧ n = .int .i64 t ∧ 0 ≤ t ∧ t ≤ 1048576) (fun _ i => L - (intOf i).toNat)
  case atStart => exact ⟨0, _, Nat.zero_le _, rfl, rfl, by omega, by assumption⟩
  case round =>
    obtain ⟨k, t, hk, rfl, rfl, ht0, ht1⟩ := hrel
    by_cases hlt : k < L
    · obtain ⟨b, off, rfl, hcell⟩ := hrow (by omega)
      have hc := hcell k (by omega)
      obtain ⟨s, hs⟩ : ∃ s, s = ss.getD k ByteArray.empty := ⟨_, rfl⟩
      rw [← hs] at hc
      clear hs hcell
      go_wp2
      all_goals first
        | (go_ret; first | exact ⟨Or.inl rfl, rfl⟩ | exact ⟨Or.inr rfl, rfl⟩)
        | (go_round
           case rel => exact ⟨k + 1, _, by omega, by go_num, rfl, by omega, by assumption⟩
           case measure => simp [intOf]; omega)
    · go_wp2
      all_goals (go_ret; first | exact ⟨Or.inl rfl, rfl⟩ | exact ⟨Or.inr rfl, rfl⟩)

set_option maxHeartbeats 800000 in
theorem zzb10 (w : World) (rn nm : ByteArray) (a : Option Addr) (L c : Nat) (ss : List ByteArray) (hL : ss.length = L) (hrow : SRow w a ss) (hm : L ≤ maxLen) (hrn : rn.size ≤ maxLen) (hnm : nm.size ≤ maxLen) :
    Calls Try.prog 10 #[.string rn, .slice a L c, .string nm] w fun e w' => (e = .returned (.bool false) ∨ e = .returned (.bool true)) ∧ w = w' := by
  unfold maxLen at hm hrn hnm
  go_enter Try.func10, Try.ntmps10
  go_wp2
  all_goals first | (go_ret; first | exact ⟨Or.inl rfl, rfl⟩ | exact ⟨Or.inr rfl, rfl⟩) | skip
  go_loop [7, 8] (fun n i => ∃ (k : Nat) (t : Int), k ≤ L ∧ i = .int .i64 k ∧ n = .int .i64 t ∧ 0 ≤ t ∧ t ≤ 1048576) (fun _ i => L - (intOf i).toNat)
  case atStart => exact ⟨0, _, Nat.zero_le _, rfl, rfl, by omega, by assumption⟩
  case round =>
    obtain ⟨k, t, hk, rfl, rfl, ht0, ht1⟩ := hrel
    by_cases hlt : k < L
    · obtain ⟨b, off, rfl, hcell⟩ := hrow (by omega)
      have hc := hcell k (by omega)
      obtain ⟨s, hs⟩ : ∃ s, s = ss.getD k ByteArray.empty := ⟨_, rfl⟩
      rw [← hs] at hc
      clear hs hcell
      go_wp2
      all_goals first
        | (go_ret; first | exact ⟨Or.inl rfl, rfl⟩ | exact ⟨Or.inr rfl, rfl⟩)
        | (go_round
           case rel => exact ⟨k + 1, _, by omega, by go_num, rfl, by omega, by assumption⟩
           case measure => simp [intOf]; omega)
    · go_wp2
      all_goals (go_ret; first | exact ⟨Or.inl rfl, rfl⟩ | exact ⟨Or.inr rfl, rfl⟩)

set_option maxHeartbeats 800000 in
theorem sizeok (w : World) (rn nm : ByteArray) (a : Option Addr) (L c : Nat) (ss : List ByteArray) (hL : ss.length = L) (hrow : SRow w a ss) (hm : L ≤ maxLen) (hrn : rn.size ≤ maxLen) (hnm : nm.size ≤ maxLen) :
    Calls Try.prog 6 #[.string rn, .slice a L c, .string nm] w fun e w' => (e = .returned (.bool false) ∨ e = .returned (.bool true) ∧ L ≤ 65536) ∧ w = w' := by
  unfold maxLen at hm hrn hnm
  by_cases h1 : 65536 < L
  · go_enter Try.func6, Try.ntmps6
    go_wp2
    go_ret
    exact ⟨Or.inl rfl, rfl⟩
  · by_cases h2 : 1048576 < rn.size
    · go_enter Try.func6, Try.ntmps6
      go_wp2
      go_ret
      exact ⟨Or.inl rfl, rfl⟩
    · by_cases h3 : 1048576 < nm.size
      · go_enter Try.func6, Try.ntmps6
        go_wp2
        go_ret
        exact ⟨Or.inl rfl, rfl⟩
      · go_enter Try.func6, Try.ntmps6
        go_wp2
        all_goals first | (go_ret; exact ⟨Or.inl rfl, rfl⟩) | skip
        go_loop [7, 8] (fun n i => ∃ (k : Nat) (t : Int), k ≤ L ∧ i = .int .i64 k ∧ n = .int .i64 t ∧ 0 ≤ t ∧ t ≤ 1048576) (fun _ i => L - (intOf i).toNat)
        case atStart => exact ⟨0, _, Nat.zero_le _, rfl, rfl, by omega, by assumption⟩
        case round =>
          obtain ⟨k, t, hk, rfl, rfl, ht0, ht1⟩ := hrel
          by_cases hlt : k < L
          · obtain ⟨b, off, rfl, hcell⟩ := hrow (by omega)
            have hc := hcell k (by omega)
            obtain ⟨s, hs⟩ : ∃ s, s = ss.getD k ByteArray.empty := ⟨_, rfl⟩
            rw [← hs] at hc
            clear hs hcell
            go_wp2
            all_goals first
              | (go_ret; exact ⟨Or.inl rfl, rfl⟩)
              | (go_round
                 case rel => exact ⟨k + 1, _, by omega, by go_num, rfl, by omega, by assumption⟩
                 case measure => simp [intOf]; omega)
          · go_wp2
            go_ret
            exact ⟨Or.inr ⟨rfl, by omega⟩, rfl⟩
end Go.Proofs.Qxb6604643a
