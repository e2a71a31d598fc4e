import Derived.Test.Qxb6604618aEnc2
import Derived.Test.Qxb6604618aClone
namespace Go.Proofs.Qxb6604618a
open Go.RowKit

theorem mid (A B C : List Int) (n k : Nat) (hn : n = A.length) (hk : k = B.length) : ((A ++ (B ++ C)).drop n).take k = B := by
  subst hn hk
  rw [List.drop_left, List.take_left]
theorem mid_at (A B C : List Int) (n i : Nat) (hn : n = A.length) (hi : i < B.length) : (A ++ (B ++ C)).getD (n + i) 0 = B.getD i 0 := by
  subst hn
  simp only [List.getD]
  rw [List.getElem?_append_right (by omega), Nat.add_sub_cancel_left, List.getElem?_append_left hi]
theorem be32_len (u : Int) : (Mm.be32 u).length = 4 := rfl
theorem be64_len (u : Int) : (Mm.be64 u).length = 8 := rfl

/-- what the reader meets: the bytes X behind zs: four numbers, then PW, then the bit -/
structure Mm.Layout (ALL zs : List Int) (a1 a2 a3 a4 : Int) (q : Int) (ps : List Int) (ro : Bool) : Prop where
  len : ALL.length = zs.length + 29 + ps.length
  pre : ∀ i, i < zs.length → ALL.getD i 0 = zs.getD i 0
  f1 : (ALL.drop zs.length).take 4 = Mm.be32 (n32 a1)
  f2 : (ALL.drop (zs.length + 4)).take 8 = Mm.be64 (n64 a2)
  f3 : (ALL.drop (zs.length + 12)).take 4 = Mm.be32 (n32 a3)
  f4 : (ALL.drop (zs.length + 16)).take 8 = Mm.be64 (n64 a4)
  f5 : (ALL.drop (zs.length + 24)).take 4 = Mm.be32 q
  pw : ∀ i, i < ps.length → ALL.getD (zs.length + 28 + i) 0 = ps.getD i 0
  last : ALL.getD (zs.length + 28 + ps.length) 0 = bit ro

theorem layout (zs : List Int) (a1 a2 a3 a4 q : Int) (ps : List Int) (ro : Bool) :
    Mm.Layout (((((((zs ++ Mm.be32 (n32 a1)) ++ Mm.be64 (n64 a2)) ++ Mm.be32 (n32 a3)) ++ Mm.be64 (n64 a4)) ++ Mm.be32 q) ++ ps) ++ [bit ro]) zs a1 a2 a3 a4 q ps ro := by
  refine ⟨?_, ?_, ?_, ?_, ?_, ?_, ?_, ?_, ?_⟩
  · simp [be32_len, be64_len]; omega
  · intro i hi
    simp only [List.append_assoc, List.getD]
    rw [List.getElem?_append_left hi]
  · have := mid zs (Mm.be32 (n32 a1)) (Mm.be64 (n64 a2) ++ (Mm.be32 (n32 a3) ++ (Mm.be64 (n64 a4) ++ (Mm.be32 q ++ (ps ++ [bit ro]))))) zs.length 4 rfl rfl
    simpa only [List.append_assoc] using this
  · have := mid (zs ++ Mm.be32 (n32 a1)) (Mm.be64 (n64 a2)) (Mm.be32 (n32 a3) ++ (Mm.be64 (n64 a4) ++ (Mm.be32 q ++ (ps ++ [bit ro])))) (zs.length + 4) 8 (by simp [be32_len]) rfl
    simpa only [List.append_assoc] using this
  · have := mid (zs ++ Mm.be32 (n32 a1) ++ Mm.be64 (n64 a2)) (Mm.be32 (n32 a3)) (Mm.be64 (n64 a4) ++ (Mm.be32 q ++ (ps ++ [bit ro]))) (zs.length + 12) 4 (by simp [be32_len, be64_len]) rfl
    simpa only [List.append_assoc] using this
  · have := mid (zs ++ Mm.be32 (n32 a1) ++ Mm.be64 (n64 a2) ++ Mm.be32 (n32 a3)) (Mm.be64 (n64 a4)) (Mm.be32 q ++ (ps ++ [bit ro])) (zs.length + 16) 8 (by simp [be32_len, be64_len]) rfl
    simpa only [List.append_assoc] using this
  · have := mid (zs ++ Mm.be32 (n32 a1) ++ Mm.be64 (n64 a2) ++ Mm.be32 (n32 a3) ++ Mm.be64 (n64 a4)) (Mm.be32 q) (ps ++ [bit ro]) (zs.length + 24) 4 (by simp [be32_len, be64_len]) rfl
    simpa only [List.append_assoc] using this
  · intro i hi
    have := mid_at (zs ++ Mm.be32 (n32 a1) ++ Mm.be64 (n64 a2) ++ Mm.be32 (n32 a3) ++ Mm.be64 (n64 a4) ++ Mm.be32 q) ps [bit ro] (zs.length + 28) i (by simp [be32_len, be64_len]) hi
    simpa only [List.append_assoc] using this
  · have := mid_at (zs ++ Mm.be32 (n32 a1) ++ Mm.be64 (n64 a2) ++ Mm.be32 (n32 a3) ++ Mm.be64 (n64 a4) ++ Mm.be32 q ++ ps) [bit ro] [] (zs.length + 28 + ps.length) 0 (by simp [be32_len, be64_len]; omega) (by simp)
    simpa only [List.append_assoc, List.append_nil, Nat.add_zero, List.getD_cons_zero] using this

theorem back32 (a : Int) (h : -2147483648 ≤ a ∧ a ≤ 2147483647) : wrap32 (n32 a : Int) = a := by unfold wrap32 n32; omega
theorem back64 (a : Int) (h : -9223372036854775808 ≤ a ∧ a ≤ 9223372036854775807) : wrap64 (n64 a : Int) = a := by unfold wrap64 n64; omega
theorem n32_lt (a : Int) : n32 a < 4294967296 := by unfold n32; omega
theorem n64_lt (a : Int) : n64 a < 18446744073709551616 := by unfold n64; omega

/-- a row of bytes read in a later world -/
theorem Mm.Els.below {w w' : World} {a : Option Addr} {len : Nat} {zs : List Int} (h : Mm.Els w a len zs) (hb : Below w.heap.size w w') : Mm.Els w' a len zs := by
  rcases h with h | ⟨x, h1, h2, h3⟩
  · exact Or.inl h
  · exact Or.inr ⟨x, h1, h2, fun i hi => (hb.cell (World.block_lt_of_cell? w _ (h3 i hi))).trans (h3 i hi)⟩
theorem Mm.Els.of_own {w : World} {B g len cp : Nat} {zs : List Int} (hz : zs.length = len) (h : w.ownsRow B 5 1 (.slice (some ⟨g, 0, none⟩) len cp) len (Mm.nv zs)) : Mm.Els w (some ⟨g, 0, none⟩) len zs :=
  Or.inr ⟨_, rfl, hz, fun i hi => h.cells rfl i _ (Mm.nv_at zs i hi)⟩
theorem own_zero {w : World} {B : Nat} {v : Value} {n : Nat} {xs : List Value} (h : w.ownsRow B 5 1 v n xs) : w.ownsRow 0 5 1 v n xs := by
  obtain ⟨h1, h2⟩ := h
  refine ⟨h1, ?_⟩
  rcases h2 with h2 | ⟨g, cap, cur, hv, hg, r⟩
  · exact Or.inl h2
  · exact Or.inr ⟨g, cap, cur, hv, Nat.zero_le _, r⟩
theorem own_below {w w' : World} {B C : Nat} {v : Value} {n : Nat} {xs : List Value} (h : w.ownsRow B 5 1 v n xs) (hb : Below C w w') (hC : ∀ k, v.ownBlock = some k → k < C) : w'.ownsRow B 5 1 v n xs := by
  obtain ⟨h1, h2⟩ := h
  refine ⟨h1, ?_⟩
  rcases h2 with h2 | ⟨g, cap, cur, rfl, hg, hh, r⟩
  · exact Or.inl h2
  · exact Or.inr ⟨g, cap, cur, rfl, hg, (hb.block g (hC g rfl)).trans hh, r⟩

/-- what stands ahead of the call of Encode -/
theorem ready {w3 : World} {ao : Option Addr} {L cp : Nat} {zs : List Int} (hz : zs.length = L) (own : w3.ownsRow 0 5 1 (.slice ao L cp) L (Mm.nv zs)) (O1 : Obj) :
    Mm.Enc ((w3.alloc O1).alloc (.cells #[.slice ao L cp] 42)) (w3.heap.size + 1) (Value.slice ao L cp).ownBlock ((w3.alloc O1).alloc (.cells #[.slice ao L cp] 42)) (.slice ao L cp) zs := by
  refine ⟨?_, ?_, ?_, ?_, ?_, Or.inl rfl, ⟨rfl, rfl, rfl, Nat.le_refl _, fun _ _ _ _ => rfl⟩⟩
  · have := World.cell?_alloc_new (w3.alloc O1) #[.slice ao L cp] 42 0
    rw [World.size_alloc] at this
    exact this
  · have := World.frozen?_alloc_new (w3.alloc O1) #[.slice ao L cp] 42 0
    rw [World.size_alloc] at this
    exact this
  · rw [hz]; exact (own.alloc _).alloc _
  · simp
  · intro e
    have := (own.lt _ e).2
    omega

theorem Els_copy {w : World} {a ao : Option Addr} {B g L cp : Nat} {zs : List Int} (hz : zs.length = L) (h : (a = none ∧ ao = none ∧ cp = 0) ∨ (∃ x, a = some x) ∧ ao = some ⟨g, 0, none⟩ ∧ cp = L) (own : w.ownsRow B 5 1 (.slice ao L cp) L (Mm.nv zs)) : Mm.Els w ao L zs ∧ (ao = none → cp = 0) := by
  rcases h with ⟨_, rfl, rfl⟩ | ⟨_, rfl, rfl⟩
  · refine ⟨Or.inl ⟨rfl, ?_, ?_⟩, fun _ => rfl⟩
    · rcases own.2 with ⟨_, h⟩ | ⟨g, cap, cur, h, _⟩
      · exact h
      · cases h
    · rcases own.2 with ⟨_, h⟩ | ⟨g, cap, cur, h, _⟩
      · exact List.eq_nil_of_length_eq_zero (by omega)
      · cases h
  · exact ⟨Mm.Els.of_own hz own, fun h => by cases h⟩

theorem below_fr {B : Nat} {w w5 w6 : World} {E : Nat} {s0 : Option Nat} (h : Below B w w5) (f : Mm.Fr w5 E s0 w6) (hE : B ≤ E) (hs : ∀ k, s0 = some k → B ≤ k) (hB : B ≤ w5.heap.size) : Below B w w6 :=
  ⟨f.os.trans h.os, f.tape.trans h.tape, f.output.trans h.output, Nat.le_trans h.size f.size, fun k hk => (f.block k (by omega) (by omega) (fun e => by have := hs k e.symm; omega)).trans (h.block k hk)⟩

/-- the request's box -/
theorem req_new (w3 : World) (a1 a2 a3 a4 : Int) (pw : Value) (ro : Bool) (O2 : Obj) :
    Mm.Req ((w3.alloc (.cells #[.int .i32 a1, .int .i64 a2, .int .i32 a3, .int .i64 a4, pw, .bool ro] 32)).alloc O2) w3.heap.size a1 a2 a3 a4 pw ro := by
  refine ⟨?_, ?_, ?_, ?_, ?_, ?_⟩ <;> (rw [World.cell?_alloc_lt _ _ _ (by simp)]; simp)

/-- the row that Encode leaves, cell by cell -/
theorem Enc_row {w0 w : World} {E : Nat} {s0 : Option Nat} {v : Value} {ns : List Int} (h : Mm.Enc w0 E s0 w v ns) (hp : 0 < ns.length) : ∃ G cp, v = .slice (some ⟨G, 0, none⟩) ns.length cp ∧ ∀ j, j < ns.length → w.cell? ⟨G, j, none⟩ = some (.int .u8 (ns.getD j 0)) := by
  rcases h.own.2 with ⟨_, h0⟩ | ⟨g, cap, cur, hv, _⟩
  · omega
  · have own := h.own
    rw [hv] at own
    exact ⟨g, cap, hv, fun j hj => (own.cellAt j (by omega)).trans (Mm.nv_at ns j hj)⟩

/-- a row of the law's own, made ahead of Encode, behind it -/
theorem row_kept {w3 w5 w6 : World} {E : Nat} {s0 : Option Nat} {C O L cp : Nat} {zs : List Int} (hz : zs.length = L) (own : w3.ownsRow C 5 1 (.slice (some ⟨O, 0, none⟩) L cp) L (Mm.nv zs)) (k5 : ∀ k, k < w3.heap.size → w5.heap[k]? = w3.heap[k]?)
    (f : Mm.Fr w5 E s0 w6) (hs : w3.heap.size ≤ w5.heap.size) (hE : w3.heap.size ≤ E) (hs0 : ∀ k, s0 = some k → k < C) : ∀ j, j < L → w6.cell? ⟨O, j, none⟩ = some (.int .u8 (zs.getD j 0)) := by
  intro j hj
  have hl := own.lt O rfl
  have e : w6.heap[O]? = w3.heap[O]? := (f.block O (by omega) (by omega) (fun e => by have := hs0 O e.symm; omega)).trans (k5 O hl.2)
  exact (World.cell?_of_block (a := ⟨O, j, none⟩) e).trans ((own.cellAt j (by omega)).trans (Mm.nv_at zs j (by omega)))
theorem own_addr {w : World} {B : Nat} {ao : Option Addr} {L cp : Nat} {xs : List Value} (own : w.ownsRow B 5 1 (.slice ao L cp) L xs) (h : 0 < L) : ∃ O, ao = some ⟨O, 0, none⟩ := by
  rcases own.2 with ⟨_, h0⟩ | ⟨g, cap, cur, hv, _⟩
  · omega
  · cases hv; exact ⟨g, rfl⟩
theorem bit_le (b : Bool) : bit b ≤ 1 := by cases b <;> decide
theorem bit_ge (b : Bool) : 0 ≤ bit b := by cases b <;> decide
theorem bit_eq (b : Bool) : (bit b == 1) = b := by cases b <;> decide
end Go.Proofs.Qxb6604618a
