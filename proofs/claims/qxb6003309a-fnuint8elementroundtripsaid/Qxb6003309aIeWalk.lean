import Derived.Test.Qxb6003309aRows
import Derived.WalkKit
import Derived.WalkSpells
import Derived.WalkLawsBesides
import Derived.OpenShut
namespace Go.Proofs.Qxb6003309a
open Go.RowKit

set_option maxHeartbeats 400000 in
theorem u8ie_any (t v : Int) (w : World) :
    Calls Try.prog 6 #[.int .u8 t, .int .u8 v] w fun e w' => e = .returned (.agg #[.int .u8 t, .slice (some ⟨w.heap.size + 1, 0, none⟩) 1 1]) ∧
      (w.alloc (.cells #[.int .u8 t, .slice (some ⟨w.heap.size + 1, 0, none⟩) 1 1] 25)).alloc (.cells #[.int .u8 v] 5) = w' := by
  go_enter Try.func6, Try.ntmps6
  go_wp2
  exact bodyPost_ret (v := .agg #[.int .u8 t, .slice (some ⟨w.heap.size + 1, 0, none⟩) 1 1]) (by simp [results, Try.results6, go_sem]) rfl ⟨rfl, rfl⟩

set_option maxHeartbeats 400000 in
theorem cause_any (c : Int) (w : World) :
    Calls Try.prog 8 #[.int .u8 c] w fun e w' => e = .returned (.agg #[.int .u8 1, .slice (some ⟨w.heap.size + 2, 0, none⟩) 1 1]) ∧
      ((w.alloc (.cells #[.int .u8 1, .slice (some ⟨w.heap.size + 2, 0, none⟩) 1 1] 25)).alloc (.cells #[.int .u8 1, .slice (some ⟨w.heap.size + 2, 0, none⟩) 1 1] 25)).alloc (.cells #[.int .u8 c] 5) = w' := by
  go_enter Try.func8, Try.ntmps8
  go_wp2_with (go_at_call 6; refine (u8ie_any _ _ _).mono ?_; rintro e w' ⟨rfl, rfl⟩)
  exact bodyPost_ret (v := .agg #[.int .u8 1, .slice (some ⟨w.heap.size + 2, 0, none⟩) 1 1]) (by simp [results, Try.results8, go_sem]) rfl ⟨rfl, rfl⟩

set_option maxHeartbeats 400000 in
theorem round_any (t v c : Int) (w : World) :
    Calls Try.prog 3 #[.int .u8 t, .int .u8 v, .int .u8 c] w fun e w' => e = .returned (.bool true) ∧ Grown w w' := by
  go_enter Try.func3, Try.ntmps3
  go_wp2_with (first | (go_at_call 8; refine (cause_any _ _).mono ?_; rintro e w' ⟨rfl, rfl⟩) | (go_at_call 6; refine (u8ie_any _ _ _).mono ?_; rintro e w' ⟨rfl, rfl⟩) | go_in)
  go_ret
  exact ⟨rfl, by repeat (first | exact Grown.refl _ | apply Grown.drew | apply Grown.alloc)⟩
end Go.Proofs.Qxb6003309a
