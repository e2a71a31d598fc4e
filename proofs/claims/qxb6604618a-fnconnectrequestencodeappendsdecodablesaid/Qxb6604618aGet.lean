import Derived.Test.Qxb6604618aMem
import Derived.RegionTactic
import Derived.Deep.RegionWith
import Derived.Deep.QuietTactic
import Derived.BigQuiet
import Derived.Deep.Draws
import Derived.OpenShut
namespace Go.Proofs.Qxb6604618a
open Go.RowKit

theorem or32_8 (x y : Int) (h0 : 0 ≤ x) (h1 : x % 256 = 0) (h2 : x < 4294967296) (h3 : 0 ≤ y) (h4 : y < 256) : bits .or .u32 x y = x + y :=
  bits_join .u32 32 (by decide) (fun n a b => by simp [IntKind.wrap, IntKind.bits, IntKind.signed]; omega) 8 x y h0 h1 h2 h3 h4 (by omega)
theorem or32_16 (x y : Int) (h0 : 0 ≤ x) (h1 : x % 65536 = 0) (h2 : x < 4294967296) (h3 : 0 ≤ y) (h4 : y < 65536) : bits .or .u32 x y = x + y :=
  bits_join .u32 32 (by decide) (fun n a b => by simp [IntKind.wrap, IntKind.bits, IntKind.signed]; omega) 16 x y h0 h1 h2 h3 h4 (by omega)
theorem or32_24 (x y : Int) (h0 : 0 ≤ x) (h1 : x % 16777216 = 0) (h2 : x < 4294967296) (h3 : 0 ≤ y) (h4 : y < 16777216) : bits .or .u32 x y = x + y :=
  bits_join .u32 32 (by decide) (fun n a b => by simp [IntKind.wrap, IntKind.bits, IntKind.signed]; omega) 24 x y h0 h1 h2 h3 h4 (by omega)
theorem or64_32 (x y : Int) (h0 : 0 ≤ x) (h1 : x % 4294967296 = 0) (h2 : x < 18446744073709551616) (h3 : 0 ≤ y) (h4 : y < 4294967296) : bits .or .u64 x y = x + y :=
  bits_join .u64 64 (by decide) (fun n a b => by simp [IntKind.wrap, IntKind.bits, IntKind.signed]; omega) 32 x y h0 h1 h2 h3 h4 (by omega)

theorem join32 (b0 b1 b2 b3 : Int) (p0 : 0 ≤ b0) (q0 : b0 ≤ 255) (p1 : 0 ≤ b1) (q1 : b1 ≤ 255) (p2 : 0 ≤ b2) (q2 : b2 ≤ 255) (p3 : 0 ≤ b3) (q3 : b3 ≤ 255) :
    bits .or .u32 (bits .or .u32 (bits .or .u32 (b0 * 16777216) (b1 * 65536)) (b2 * 256)) b3 = b0 * 16777216 + b1 * 65536 + b2 * 256 + b3 := by
  rw [or32_24 (b0 * 16777216) (b1 * 65536) (by omega) (by omega) (by omega) (by omega) (by omega), or32_16 (b0 * 16777216 + b1 * 65536) (b2 * 256) (by omega) (by omega) (by omega) (by omega) (by omega),
    or32_8 (b0 * 16777216 + b1 * 65536 + b2 * 256) b3 (by omega) (by omega) (by omega) (by omega) (by omega)]
theorem ret_at {k : IntKind} {a b : Int} (h : a = b) : Ending.returned (.int k a) = .returned (.int k b) := by rw [h]

set_option maxHeartbeats 400000 in
theorem get32_raw (w : World) (g n c o : Nat) (b0 b1 b2 b3 : Int) (hn : n ≤ 1073741824) (ho : o + 4 ≤ n) (p0 : 0 ≤ b0 ∧ b0 ≤ 255) (p1 : 0 ≤ b1 ∧ b1 ≤ 255) (p2 : 0 ≤ b2 ∧ b2 ≤ 255) (p3 : 0 ≤ b3 ∧ b3 ≤ 255)
    (c0 : w.cell? ⟨g, o, none⟩ = some (.int .u8 b0)) (c1 : w.cell? ⟨g, o + 1, none⟩ = some (.int .u8 b1)) (c2 : w.cell? ⟨g, o + 2, none⟩ = some (.int .u8 b2)) (c3 : w.cell? ⟨g, o + 3, none⟩ = some (.int .u8 b3)) :
    Calls Try.prog 13 #[.slice (some ⟨g, 0, none⟩) n c, .int .i64 (o : Int)] w fun e w' => e = .returned (.int .u32 (b0 * 16777216 + b1 * 65536 + b2 * 256 + b3)) ∧ ∃ nq, w' = w.drewN nq := by
  obtain ⟨p0, q0⟩ := p0
  obtain ⟨p1, q1⟩ := p1
  obtain ⟨p2, q2⟩ := p2
  obtain ⟨p3, q3⟩ := p3
  go_enter Try.func13, Try.ntmps13
  go_wp2
  go_quiet (fail)
  go_wp2
  go_ret
  exact ⟨ret_at (join32 b0 b1 b2 b3 p0 q0 p1 q1 p2 q2 p3 q3), nq, rfl⟩

/-- the four bytes at o are u's -/
theorem get32_any (w : World) (g n c o : Nat) (oi : Int) (hoi : oi = (o : Int)) (ns : List Int) (u : Nat) (hu : u < 4294967296) (hn : n ≤ 1073741824) (ho : o + 4 ≤ n) (hb : (ns.drop o).take 4 = Mm.be32 u)
    (hc : ∀ j, j < n → w.cell? ⟨g, j, none⟩ = some (.int .u8 (ns.getD j 0))) :
    Calls Try.prog 13 #[.slice (some ⟨g, 0, none⟩) n c, .int .i64 oi] w fun e w' => e = .returned (.int .u32 (u : Int)) ∧ ∃ nq, w' = w.drewN nq := by
  subst hoi
  have e : ∀ i, i < 4 → ns.getD (o + i) 0 = (Mm.be32 u).getD i 0 := fun i hi => by
    rw [← hb]; simp [List.getD, hi, List.getElem?_drop]
  have e0 := e 0 (by omega)
  have e1 := e 1 (by omega)
  have e2 := e 2 (by omega)
  have e3 := e 3 (by omega)
  simp only [Mm.be32, List.getD_cons_zero, List.getD_cons_succ, Nat.add_zero] at e0 e1 e2 e3
  have c0 := hc o (by omega)
  have c1 := hc (o + 1) (by omega)
  have c2 := hc (o + 2) (by omega)
  have c3 := hc (o + 3) (by omega)
  rw [e0] at c0
  rw [e1] at c1
  rw [e2] at c2
  rw [e3] at c3
  refine (get32_raw w g n c o _ _ _ _ hn ho (by omega) (by omega) (by omega) (by omega) c0 c1 c2 c3).mono ?_
  rintro e w' ⟨rfl, h⟩
  exact ⟨ret_at (by omega), h⟩

set_option maxHeartbeats 400000 in
theorem get64_any (w : World) (g n c o : Nat) (oi : Int) (hoi : oi = (o : Int)) (ns : List Int) (u : Nat) (hu : u < 18446744073709551616) (hn : n ≤ 1073741824) (ho : o + 8 ≤ n) (hb : (ns.drop o).take 8 = Mm.be64 u)
    (hc : ∀ j, j < n → w.cell? ⟨g, j, none⟩ = some (.int .u8 (ns.getD j 0))) :
    Calls Try.prog 14 #[.slice (some ⟨g, 0, none⟩) n c, .int .i64 oi] w fun e w' => e = .returned (.int .u64 (u : Int)) ∧ ∃ nq, w' = w.drewN nq := by
  subst hoi
  have hb1 : (ns.drop o).take 4 = Mm.be32 ((u / 4294967296 : Nat) : Int) := by
    have : (ns.drop o).take 4 = ((ns.drop o).take 8).take 4 := by rw [List.take_take]; rfl
    rw [this, hb]
    simp only [Mm.be64, Mm.be32, List.take_succ_cons, List.take_zero, List.cons.injEq, and_true]
    omega
  have hb2 : (ns.drop (o + 4)).take 4 = Mm.be32 ((u % 4294967296 : Nat) : Int) := by
    have : (ns.drop (o + 4)).take 4 = ((ns.drop o).take 8).drop 4 := by rw [List.drop_take, List.drop_drop]
    rw [this, hb]
    simp only [Mm.be64, Mm.be32, List.drop_succ_cons, List.drop_zero, List.cons.injEq, and_true]
    omega
  have HB1 := (show Hid _ from hb1)
  have HB2 := (show Hid _ from hb2)
  have HC := (show Hid _ from hc)
  clear hb hb1 hb2 hc
  go_enter Try.func14, Try.ntmps14
  go_wp2_with fail
  refine (get32_any w g n c o _ rfl ns (u / 4294967296) (by omega) hn (by omega) HB1.out HC.out).mono ?_
  rintro e w1 ⟨rfl, n1, rfl⟩
  go_wp2_with fail
  refine (get32_any (w.drewN n1) g n c (o + 4) _ (by omega) ns (u % 4294967296) (by omega) hn (by omega) HB2.out HC.out).mono ?_
  rintro e w2 ⟨rfl, n2, rfl⟩
  go_wp2
  go_ret
  exact ⟨ret_at ((or64_32 _ _ (by omega) (by omega) (by omega) (by omega) (by omega)).trans (by omega)), n1 + n2, rfl⟩
end Go.Proofs.Qxb6604618a
