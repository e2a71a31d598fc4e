import Derived.Test.Qxb6003309aClone
import Derived.Test.Qxb6003309aBits
namespace Go.Proofs.Qxb6003309a
open Go.RowKit

set_option maxHeartbeats 400000 in
theorem ns_big (w : World) (a : Option Addr) (L c : Nat) (t : Int) (h : 65536 < L) :
    Calls Try.prog 4 #[.slice a L c, .int .u8 t] w fun e w' => e = .returned (.bool true) ∧ Below w.heap.size w w' := by
  by_cases h2 : 1048576 < L
  all_goals
    go_enter Try.func4, Try.ntmps4
    go_wp2
    go_ret
    exact ⟨rfl, Below.refl _ _⟩

set_option maxHeartbeats 400000 in
theorem zz_any (w : World) (a : Option Addr) (L c : Nat) (t : Int) (h : L ≤ 65536) :
    Calls Try.prog 9 #[.slice a L c, .int .u8 t] w fun e w' => e = .returned (.bool true) ∧ w = w' := by
  go_enter Try.func9, Try.ntmps9
  go_wp2
  go_ret
  exact ⟨rfl, rfl⟩

set_option maxHeartbeats 400000 in
theorem ns_other (w : World) (a : Option Addr) (L c : Nat) (zs : List Int) (t : Int) (h : L ≤ 65536) (h1 : L ≠ 1) (hc : a = none → c = 0) (e0 : Mm.Els w a L zs) :
    Calls Try.prog 4 #[.slice a L c, .int .u8 t] w fun e w' => e = .returned (.bool true) ∧ Below w.heap.size w w' := by
  have hne : ((L : Int) == 1) = false := by simp; omega
  go_enter Try.func4, Try.ntmps4
  go_wp2_with fail
  refine (zz_any w a L c t h).mono ?_
  rintro e w' ⟨rfl, rfl⟩
  go_wp2_with fail
  refine (clone_any w a L c zs (by omega) hc e0).mono ?_
  rintro e w1 ⟨ao, cp, rfl, _, own1, bel1⟩
  go_wp2
  go_ret
  exact ⟨rfl, bel1.alloc bel1.size _⟩

set_option maxHeartbeats 400000 in
theorem ns_one (w : World) (a : Option Addr) (c : Nat) (x : Int) (t : Int) (h0 : 0 ≤ x) (h1 : x ≤ 255) (hc : a = none → c = 0) (e0 : Mm.Els w a 1 [x]) :
    Calls Try.prog 4 #[.slice a 1 c, .int .u8 t] w fun e w' => e = .returned (.bool true) ∧ Below w.heap.size w w' := by
  obtain ⟨y, hy⟩ : ∃ y, y = x % 16 := ⟨_, rfl⟩
  have m1 : bits .and .u8 x 15 = y := (and15 x h0 h1).trans hy.symm
  have y0 : 0 ≤ y := by omega
  have y1 : y ≤ 15 := by omega
  have m2 : bits .and .u8 y 15 = y := (and15 y y0 (by omega)).trans (by omega)
  have m3 : bits .or .u8 y 240 = y + 240 := or240 y y0 y1
  have m4 : bits .and .u8 (y + 240) 15 = y := (and15 (y + 240) (by omega) (by omega)).trans (by omega)
  clear hy
  go_enter Try.func4, Try.ntmps4
  go_wp2_with fail
  refine (zz_any w a 1 c t (by omega)).mono ?_
  rintro e w' ⟨rfl, rfl⟩
  go_wp2_with fail
  refine (clone_any w a 1 c [x] (by omega) hc e0).mono ?_
  rintro e w1 ⟨ao, cp, rfl, hao, own1, bel1⟩
  obtain ⟨rfl, rfl⟩ : ao = some ⟨w.heap.size, 0, none⟩ ∧ cp = 1 := by
    rcases hao with ⟨rfl, _, _⟩ | ⟨_, h1, h2⟩
    · rcases e0 with ⟨_, h, _⟩ | ⟨x, h, _⟩
      · omega
      · cases h
    · exact ⟨h1, h2⟩
  have q : w1.cell? ⟨w.heap.size, 0, none⟩ = some (.int .u8 x) := own1.cellAt 0 (by omega)
  have hlt := (own1.lt _ rfl).2
  clear own1 hao e0 hc
  go_wp2
  go_ret
  exact ⟨rfl, ((bel1.alloc bel1.size _).alloc (by simp; omega) _).alloc (by simp; omega) _⟩
end Go.Proofs.Qxb6003309a
