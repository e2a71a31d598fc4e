import Derived.Test.Qxb6604618aEnc
namespace Go.Proofs.Qxb6604618a
open Go.RowKit

/-- the request's fields at block R -/
structure Mm.Req (w : World) (R : Nat) (a1 a2 a3 a4 : Int) (pw : Value) (ro : Bool) : Prop where
  c0 : w.cell? ⟨R, 0, none⟩ = some (.int .i32 a1)
  c1 : w.cell? ⟨R, 1, none⟩ = some (.int .i64 a2)
  c2 : w.cell? ⟨R, 2, none⟩ = some (.int .i32 a3)
  c3 : w.cell? ⟨R, 3, none⟩ = some (.int .i64 a4)
  c4 : w.cell? ⟨R, 4, none⟩ = some pw
  c5 : w.cell? ⟨R, 5, none⟩ = some (.bool ro)

theorem Mm.Req.same {w w' : World} {R : Nat} {a1 a2 a3 a4 : Int} {pw : Value} {ro : Bool} (h : Mm.Req w R a1 a2 a3 a4 pw ro) (hb : w'.heap[R]? = w.heap[R]?) : Mm.Req w' R a1 a2 a3 a4 pw ro :=
  ⟨(World.cell?_of_block (a := ⟨R, 0, none⟩) hb).trans h.c0, (World.cell?_of_block (a := ⟨R, 1, none⟩) hb).trans h.c1, (World.cell?_of_block (a := ⟨R, 2, none⟩) hb).trans h.c2,
   (World.cell?_of_block (a := ⟨R, 3, none⟩) hb).trans h.c3, (World.cell?_of_block (a := ⟨R, 4, none⟩) hb).trans h.c4, (World.cell?_of_block (a := ⟨R, 5, none⟩) hb).trans h.c5⟩

theorem u32_nat (a : Int) : (a % 4294967296).toNat < 4294967296 ∧ IntKind.u32.wrap a = ((a % 4294967296).toNat : Nat) := by rw [u32_wrap]; omega
theorem u64_nat (a : Int) : (a % 18446744073709551616).toNat < 18446744073709551616 ∧ IntKind.u64.wrap a = ((a % 18446744073709551616).toNat : Nat) := by rw [u64_wrap]; omega

def n32 (a : Int) : Nat := (a % 4294967296).toNat
def n64 (a : Int) : Nat := (a % 18446744073709551616).toNat

/-- what Encode writes behind what was there, the password apart -/
def Mm.head (a1 a2 a3 a4 : Int) : List Int := Mm.be32 (n32 a1) ++ Mm.be64 (n64 a2) ++ Mm.be32 (n32 a3) ++ Mm.be64 (n64 a4)

set_option maxHeartbeats 400000 in
theorem encode_nil (w : World) (E R : Nat) (s0 : Option Nat) (v : Value) (ns : List Int) (a1 a2 a3 a4 : Int) (ro : Bool) (h : Mm.Enc w E s0 w v ns) (hn : ns.length ≤ 1048576)
    (hR : R < w.heap.size) (hRE : R ≠ E) (hRs : some R ≠ s0) (r : Mm.Req w R a1 a2 a3 a4 (.slice none 0 0) ro) :
    Calls Try.prog 11 #[.pointer (some ⟨R, 0, none⟩), .pointer (some ⟨E, 0, none⟩)] w fun e w' => e = .returned (.tuple #[]) ∧ ∃ v', Mm.Enc w E s0 w' v' ((((((ns ++ Mm.be32 (n32 a1)) ++ Mm.be64 (n64 a2)) ++ Mm.be32 (n32 a3)) ++ Mm.be64 (n64 a4)) ++ Mm.be32 4294967295) ++ [bit ro]) := by
  have q0 := r.c0
  go_enter Try.func11, Try.ntmps11
  go_wp2_with fail
  refine (int_any w _ E s0 v ns a1 (n32 a1) (u32_nat a1).1 (u32_nat a1).2 h (by omega)).mono ?_
  rintro e w1 ⟨rfl, v1, h1⟩
  have q1 := (r.same (h1.fr.block R hR hRE hRs)).c1
  go_wp2_with fail
  refine (long_any w _ E s0 v1 _ a2 (n64 a2) (u64_nat a2).1 (u64_nat a2).2 h1 (by simp [Mm.be32]; omega)).mono ?_
  rintro e w2 ⟨rfl, v2, h2⟩
  have q2 := (r.same (h2.fr.block R hR hRE hRs)).c2
  go_wp2_with fail
  refine (int_any w _ E s0 v2 _ a3 (n32 a3) (u32_nat a3).1 (u32_nat a3).2 h2 (by simp [Mm.be32, Mm.be64]; omega)).mono ?_
  rintro e w3 ⟨rfl, v3, h3⟩
  have q3 := (r.same (h3.fr.block R hR hRE hRs)).c3
  go_wp2_with fail
  refine (long_any w _ E s0 v3 _ a4 (n64 a4) (u64_nat a4).1 (u64_nat a4).2 h3 (by simp [Mm.be32, Mm.be64]; omega)).mono ?_
  rintro e w4 ⟨rfl, v4, h4⟩
  have q4 := (r.same (h4.fr.block R hR hRE hRs)).c4
  go_wp2_with fail
  refine (buf_nil w _ E s0 v4 _ h4 (by simp [Mm.be32, Mm.be64]; omega)).mono ?_
  rintro e w5 ⟨rfl, v5, h5⟩
  have q5 := (r.same (h5.fr.block R hR hRE hRs)).c5
  go_wp2_with fail
  refine (bool_any w _ E s0 v5 _ ro h5 (by simp [Mm.be32, Mm.be64]; omega)).mono ?_
  rintro e w6 ⟨rfl, v6, h6⟩
  go_wp2
  go_end0
  exact ⟨rfl, v6, h6⟩

set_option maxHeartbeats 400000 in
theorem encode_some (w : World) (E R : Nat) (s0 : Option Nat) (v : Value) (ns ps : List Int) (g m c : Nat) (hm : ps.length = m) (hm2 : m ≤ 1048576) (hg : g < w.heap.size) (hgE : g ≠ E) (hgs : some g ≠ s0)
    (hcell : ∀ j u, (Mm.nv ps)[j]? = some u → w.cell? ((⟨g, 0, none⟩ : Addr).add j) = some u) (a1 a2 a3 a4 : Int) (ro : Bool) (h : Mm.Enc w E s0 w v ns) (hn : ns.length ≤ 1048576)
    (hR : R < w.heap.size) (hRE : R ≠ E) (hRs : some R ≠ s0) (r : Mm.Req w R a1 a2 a3 a4 (.slice (some ⟨g, 0, none⟩) m c) ro) :
    Calls Try.prog 11 #[.pointer (some ⟨R, 0, none⟩), .pointer (some ⟨E, 0, none⟩)] w fun e w' => e = .returned (.tuple #[]) ∧ ∃ v', Mm.Enc w E s0 w' v' (((((((ns ++ Mm.be32 (n32 a1)) ++ Mm.be64 (n64 a2)) ++ Mm.be32 (n32 a3)) ++ Mm.be64 (n64 a4)) ++ Mm.be32 m) ++ ps) ++ [bit ro]) := by
  have q0 := r.c0
  go_enter Try.func11, Try.ntmps11
  go_wp2_with fail
  refine (int_any w _ E s0 v ns a1 (n32 a1) (u32_nat a1).1 (u32_nat a1).2 h (by omega)).mono ?_
  rintro e w1 ⟨rfl, v1, h1⟩
  have q1 := (r.same (h1.fr.block R hR hRE hRs)).c1
  go_wp2_with fail
  refine (long_any w _ E s0 v1 _ a2 (n64 a2) (u64_nat a2).1 (u64_nat a2).2 h1 (by simp [Mm.be32]; omega)).mono ?_
  rintro e w2 ⟨rfl, v2, h2⟩
  have q2 := (r.same (h2.fr.block R hR hRE hRs)).c2
  go_wp2_with fail
  refine (int_any w _ E s0 v2 _ a3 (n32 a3) (u32_nat a3).1 (u32_nat a3).2 h2 (by simp [Mm.be32, Mm.be64]; omega)).mono ?_
  rintro e w3 ⟨rfl, v3, h3⟩
  have q3 := (r.same (h3.fr.block R hR hRE hRs)).c3
  go_wp2_with fail
  refine (long_any w _ E s0 v3 _ a4 (n64 a4) (u64_nat a4).1 (u64_nat a4).2 h3 (by simp [Mm.be32, Mm.be64]; omega)).mono ?_
  rintro e w4 ⟨rfl, v4, h4⟩
  have q4 := (r.same (h4.fr.block R hR hRE hRs)).c4
  go_wp2_with fail
  refine (buf_some w _ E s0 v4 _ ps g m c hm hm2 hg hgE hgs hcell h4 (by simp [Mm.be32, Mm.be64]; omega)).mono ?_
  rintro e w5 ⟨rfl, v5, h5⟩
  have q5 := (r.same (h5.fr.block R hR hRE hRs)).c5
  go_wp2_with fail
  refine (bool_any w _ E s0 v5 _ ro h5 (by simp [Mm.be32, Mm.be64]; omega)).mono ?_
  rintro e w6 ⟨rfl, v6, h6⟩
  go_wp2
  go_end0
  exact ⟨rfl, v6, h6⟩

set_option maxHeartbeats 400000 in
theorem bytes_any (w : World) (E : Nat) (v : Value) (h : w.cell? ⟨E, 0, none⟩ = some v) :
    Calls Try.prog 12 #[.pointer (some ⟨E, 0, none⟩)] w fun e w' => e = .returned v ∧ w' = w := by
  go_enter Try.func12, Try.ntmps12
  go_wp2
  go_ret
  exact ⟨rfl, rfl⟩

set_option maxHeartbeats 400000 in
theorem newenc_any (w : World) (ao : Option Addr) (n c : Nat) :
    Calls Try.prog 10 #[.slice ao n c] w fun e w' => e = .returned (.pointer (some ⟨w.heap.size, 0, none⟩)) ∧ w' = w.alloc (.cells #[.slice ao n c] 42) := by
  go_enter Try.func10, Try.ntmps10
  go_wp2
  go_ret
  exact ⟨rfl, rfl⟩
end Go.Proofs.Qxb6604618a
