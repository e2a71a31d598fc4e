import Derived.Test.Qxb6604618aConnPlain
import Derived.Test.Qxb6604618aGet
namespace Go.Proofs.Qxb6604618a
open Go.RowKit

set_option maxHeartbeats 400000 in
theorem zzb_any (w : World) (a0 a5 : Option Addr) (L m c0 c5 : Nat) (a1 a2 a3 a4 : Int) (ro : Bool) (h : L + m ≤ 1048576) :
    Calls Try.prog 8 #[.slice a0 L c0, .int .i32 a1, .int .i64 a2, .int .i32 a3, .int .i64 a4, .slice a5 m c5, .bool ro] w fun e w' => e = .returned (.bool true) ∧ w = w' := by
  go_enter Try.func8, Try.ntmps8
  go_wp2
  go_ret
  exact ⟨rfl, rfl⟩

set_option maxRecDepth 100000 in
set_option maxHeartbeats 800000 in
theorem conn_nil (w : World) (a0 : Option Addr) (L c0 c5 : Nat) (zs : List Int) (a1 a2 a3 a4 : Int) (ro : Bool) (h : L ≤ 1048576) (hc0 : a0 = none → c0 = 0) (hc5 : c5 = 0) (hz : zs.length = L) (e0 : Mm.Els w a0 L zs)
    (b1 : -2147483648 ≤ a1 ∧ a1 ≤ 2147483647) (b2 : -9223372036854775808 ≤ a2 ∧ a2 ≤ 9223372036854775807) (b3 : -2147483648 ≤ a3 ∧ a3 ≤ 2147483647) (b4 : -9223372036854775808 ≤ a4 ∧ a4 ≤ 9223372036854775807) :
    Calls Try.prog 5 #[.slice a0 L c0, .int .i32 a1, .int .i64 a2, .int .i32 a3, .int .i64 a4, .slice none 0 c5, .bool ro] w fun e w' => e = .returned (.bool true) ∧ Below w.heap.size w w' := by
  subst hc5
  go_enter Try.func5, Try.ntmps5
  go_wp2_with fail
  refine (zzb_any w a0 none L 0 c0 0 a1 a2 a3 a4 ro h).mono ?_
  rintro e w' ⟨rfl, rfl⟩
  go_wp2_with fail
  refine (clone_any _ a0 L c0 zs (by omega) hc0 e0).mono ?_
  rintro e w1 ⟨ao, cp, rfl, hao, own1, bel1⟩
  go_wp2_with fail
  refine (clone_any _ none 0 0 [] (by omega) (fun _ => rfl) (Or.inl ⟨rfl, rfl, rfl⟩)).mono ?_
  rintro e w2 ⟨ao5, cp5, rfl, hao5, own2, bel2⟩
  obtain ⟨rfl, rfl⟩ : ao5 = none ∧ cp5 = 0 := by
    rcases hao5 with ⟨_, h1, h2⟩ | ⟨⟨x, hx⟩, _⟩
    · exact ⟨h1, h2⟩
    · cases hx
  clear hao5 own2
  have own1b := own_below own1 bel2 (fun k hk => (own1.lt k hk).2)
  obtain ⟨eo, hco⟩ := Els_copy hz hao own1b
  have HO := (show Hid _ from hao)
  clear hao
  go_wp2_with fail
  refine (clone_any _ ao L cp zs (by omega) hco eo).mono ?_
  rintro e w3 ⟨ao3, cp3, rfl, hao3, own3, bel3⟩
  have own1c := own_zero (own_below own1b bel3 (fun k hk => (own1b.lt k hk).2))
  have s1 := bel1.size
  have s2 := bel2.size
  have s3 := bel3.size
  have hs0 := own1.lt
  have H3 := (show Hid _ from hao3)
  clear hao3 eo hco own1b
  go_wp2_with fail
  refine (newenc_any _ ao L cp).mono ?_
  rintro e w5 ⟨rfl, hw5⟩
  have enc := ready hz own1c (.cells #[.int .i32 a1, .int .i64 a2, .int .i32 a3, .int .i64 a4, .slice none 0 0, .bool ro] 32)
  have req := req_new w3 a1 a2 a3 a4 (.slice none 0 0) ro (.cells #[.slice ao L cp] 42)
  rw [← hw5] at enc req
  have z5 : w5.heap.size = w3.heap.size + 2 := by rw [hw5]; simp
  have bel5 : Below w.heap.size w w5 := by
    rw [hw5]
    exact (((bel1.trans (bel2.mono s1)).trans (bel3.mono (by omega))).alloc (by omega) _).alloc (by simp; omega) _
  have k5 : ∀ k, k < w3.heap.size → w5.heap[k]? = w3.heap[k]? := by
    intro k hk
    rw [hw5, Below.heap_alloc _ _ _ (by simp; omega), Below.heap_alloc _ _ _ hk]
  have Z5 := (show Hid _ from z5)
  clear hw5 z5
  go_wp2_with fail
  refine (encode_nil w5 (w3.heap.size + 1) w3.heap.size _ _ zs a1 a2 a3 a4 ro enc (by omega) (by have := Z5.out; omega) (by omega) (fun e => by have := hs0 _ e.symm; omega) req).mono ?_
  rintro e w6 ⟨rfl, v6, enc6⟩
  have lay := layout zs a1 a2 a3 a4 4294967295 [] ro
  rw [List.append_nil] at lay
  have bel6 := below_fr bel5 enc6.fr (by omega) (fun k hk => (hs0 k hk).1) (by have := Z5.out; omega)
  have hoc : ∀ O, ao3 = some ⟨O, 0, none⟩ → ∀ j, j < L → w6.cell? ⟨O, j, none⟩ = some (.int .u8 (zs.getD j 0)) := by
    intro O hO
    have own := own3
    rw [hO] at own
    exact row_kept hz own k5 enc6.fr (by have := Z5.out; omega) (by omega) (fun k hk => by have := (hs0 k hk).2; omega)
  have c6 := enc6.cell
  obtain ⟨ALL, hALL⟩ : ∃ A, A = (zs ++ Mm.be32 (n32 a1) ++ Mm.be64 (n64 a2) ++ Mm.be32 (n32 a3) ++ Mm.be64 (n64 a4) ++ Mm.be32 4294967295 ++ [bit ro]) := ⟨_, rfl⟩
  rw [← hALL] at lay enc6
  obtain ⟨G, cp6, hv6, hB⟩ := Enc_row enc6 (by have := lay.len; omega)
  have hN := lay.len
  obtain ⟨N, hNN⟩ : ∃ N, ALL.length = N := ⟨_, rfl⟩
  rw [hNN] at hv6 hB hN
  rw [hv6] at c6
  have hN1 : N ≤ L + 29 := by simp at hN; omega
  have hN2 : L + 29 ≤ N := by simp at hN; omega
  have HC := (show Hid _ from hB)
  have HL := (show Hid _ from lay)
  have HOC := (show Hid _ from hoc)
  clear hN hNN hALL hv6 enc6 hoc hB lay enc req bel5 k5 Z5 own1 own1c hs0 bel1 bel2 bel3 HO H3 e0
  go_wp2_with fail
  refine (bytes_any w6 _ _ c6).mono ?_
  rintro e w7 ⟨rfl, hw7⟩
  subst hw7
  clear c6
  go_wp2_with fail
  go_loopw [19] (fun i wr => ∃ k : Nat, k ≤ L ∧ i = .int .i64 k ∧ ∃ nq, wr = w7.drewN nq) (fun i _ => L - (intOf i).toNat)
  case atStart => exact ⟨0, Nat.zero_le _, rfl, 0, rfl⟩
  case round =>
    obtain ⟨k, hk, rfl, nq, rfl⟩ := hrel
    by_cases hlt : k < L
    · obtain ⟨O, rfl⟩ := own_addr own3 (by omega)
      have q1 := HC.out k (by omega)
      rw [HL.out.pre k (by omega)] at q1
      have q2 := HOC.out O rfl k hlt
      go_wp2
      go_quiet (fail)
      go_wp2
      go_roundw
      case rel => exact ⟨k + 1, by omega, by go_num, _, rfl⟩
      case measure => simp [intOf]; omega
    · have w1r := back32 a1 b1
      have w2r := back64 a2 b2
      have w3r := back32 a3 b3
      have w4r := back64 a4 b4
      have hbl := bit_le ro
      have hbg := bit_ge ro
      have hbe := bit_eq ro
      have hwm : wrap32 4294967295 = -1 := by unfold wrap32; omega
      have hnn := fun wx => run_neq_slice_nil_any (P := Try.prog) wx 25 5 none 0 0 0 0 Try.underlying25
      have ql : w7.cell? ⟨G, L + 28, none⟩ = some (.int .u8 (bit ro)) := by
        have := HC.out (L + 28) (by omega)
        have e := HL.out.last
        rw [hz, List.length_nil, Nat.add_zero] at e
        rw [e] at this
        exact this
      have F1 := HL.out.f1
      have F2 := HL.out.f2
      have F3 := HL.out.f3
      have F4 := HL.out.f4
      have F5 := HL.out.f5
      rw [hz] at F1 F2 F3 F4 F5
      have F1' := (show Hid _ from F1)
      clear F1
      have F2' := (show Hid _ from F2)
      clear F2
      have F3' := (show Hid _ from F3)
      clear F3
      have F4' := (show Hid _ from F4)
      clear F4
      have F5' := (show Hid _ from F5)
      clear F5
      clear HL HOC hc0 own3
      go_wp2_with fail
      refine (get32_any _ G N cp6 L _ (by omega) ALL (n32 a1) (n32_lt a1) (by omega) (by omega) (by exact F1'.out) (by exact HC.out)).mono ?_
      rintro e x1 ⟨rfl, nq1, rfl⟩
      go_wp2_with fail
      refine (get64_any _ G N cp6 (L + 4) _ (by omega) ALL (n64 a2) (n64_lt a2) (by omega) (by omega) (by exact F2'.out) (by exact HC.out)).mono ?_
      rintro e x2 ⟨rfl, nq2, rfl⟩
      go_wp2_with fail
      refine (get32_any _ G N cp6 (L + 12) _ (by omega) ALL (n32 a3) (n32_lt a3) (by omega) (by omega) (by exact F3'.out) (by exact HC.out)).mono ?_
      rintro e x3 ⟨rfl, nq3, rfl⟩
      go_wp2_with fail
      refine (get64_any _ G N cp6 (L + 16) _ (by omega) ALL (n64 a4) (n64_lt a4) (by omega) (by omega) (by exact F4'.out) (by exact HC.out)).mono ?_
      rintro e x4 ⟨rfl, nq4, rfl⟩
      go_wp2_with fail
      refine (get32_any _ G N cp6 (L + 24) _ (by omega) ALL 4294967295 (by decide) (by omega) (by omega) (by exact F5'.out) (by exact HC.out)).mono ?_
      rintro e x5 ⟨rfl, nq5, rfl⟩
      go_wp2
      go_ret
      exact ⟨rfl, ⟨bel6.os, bel6.tape, bel6.output, bel6.size, bel6.block⟩⟩

set_option maxRecDepth 100000 in
set_option maxHeartbeats 800000 in
theorem conn_some (w : World) (a0 : Option Addr) (x5 : Addr) (L m c0 c5 : Nat) (zs ps : List Int) (a1 a2 a3 a4 : Int) (ro : Bool) (h : L + m ≤ 1048576) (hc0 : a0 = none → c0 = 0) (hz : zs.length = L) (hps : ps.length = m) (e0 : Mm.Els w a0 L zs) (e5 : Mm.Els w (some x5) m ps)
    (b1 : -2147483648 ≤ a1 ∧ a1 ≤ 2147483647) (b2 : -9223372036854775808 ≤ a2 ∧ a2 ≤ 9223372036854775807) (b3 : -2147483648 ≤ a3 ∧ a3 ≤ 2147483647) (b4 : -9223372036854775808 ≤ a4 ∧ a4 ≤ 9223372036854775807) :
    Calls Try.prog 5 #[.slice a0 L c0, .int .i32 a1, .int .i64 a2, .int .i32 a3, .int .i64 a4, .slice (some x5) m c5, .bool ro] w fun e w' => e = .returned (.bool true) ∧ Below w.heap.size w w' := by
  go_enter Try.func5, Try.ntmps5
  go_wp2_with fail
  refine (zzb_any w a0 (some x5) L m c0 c5 a1 a2 a3 a4 ro h).mono ?_
  rintro e w' ⟨rfl, rfl⟩
  go_wp2_with fail
  refine (clone_any _ a0 L c0 zs (by omega) hc0 e0).mono ?_
  rintro e w1 ⟨ao, cp, rfl, hao, own1, bel1⟩
  go_wp2_with fail
  refine (clone_any _ (some x5) m c5 ps (by omega) (fun h => by cases h) (e5.below bel1)).mono ?_
  rintro e w2 ⟨ao5, cp5, rfl, hao5, own2, bel2⟩
  obtain ⟨rfl, rfl⟩ : ao5 = some ⟨w1.heap.size, 0, none⟩ ∧ m = cp5 := by
    rcases hao5 with ⟨hx, _⟩ | ⟨_, h1, h2⟩
    · cases hx
    · exact ⟨h1, h2.symm⟩
  clear hao5
  have own1b := own_below own1 bel2 (fun k hk => (own1.lt k hk).2)
  obtain ⟨eo, hco⟩ := Els_copy hz hao own1b
  have HO := (show Hid _ from hao)
  clear hao
  go_wp2_with fail
  refine (clone_any _ ao L cp zs (by omega) hco eo).mono ?_
  rintro e w3 ⟨ao3, cp3, rfl, hao3, own3, bel3⟩
  have own2b := own_below own2 bel3 (fun k hk => (own2.lt k hk).2)
  have l2 := own2.lt _ rfl
  have own1c := own_zero (own_below own1b bel3 (fun k hk => (own1b.lt k hk).2))
  have s1 := bel1.size
  have s2 := bel2.size
  have s3 := bel3.size
  have hs0 := own1.lt
  have H3 := (show Hid _ from hao3)
  clear hao3 eo hco own1b
  go_wp2_with fail
  refine (newenc_any _ ao L cp).mono ?_
  rintro e w5 ⟨rfl, hw5⟩
  have enc := ready hz own1c (.cells #[.int .i32 a1, .int .i64 a2, .int .i32 a3, .int .i64 a4, .slice (some ⟨w1.heap.size, 0, none⟩) m m, .bool ro] 32)
  have req := req_new w3 a1 a2 a3 a4 (.slice (some ⟨w1.heap.size, 0, none⟩) m m) ro (.cells #[.slice ao L cp] 42)
  rw [← hw5] at enc req
  have z5 : w5.heap.size = w3.heap.size + 2 := by rw [hw5]; simp
  have bel5 : Below w.heap.size w w5 := by
    rw [hw5]
    exact (((bel1.trans (bel2.mono s1)).trans (bel3.mono (by omega))).alloc (by omega) _).alloc (by simp; omega) _
  have k5 : ∀ k, k < w3.heap.size → w5.heap[k]? = w3.heap[k]? := by
    intro k hk
    rw [hw5, Below.heap_alloc _ _ _ (by simp; omega), Below.heap_alloc _ _ _ hk]
  have Z5 := (show Hid _ from z5)
  clear hw5 z5
  go_wp2_with fail
  refine (encode_some w5 (w3.heap.size + 1) w3.heap.size _ _ zs ps w1.heap.size m m hps (by omega) (by have := Z5.out; omega) (by omega) (fun e => by have := hs0 _ e.symm; omega) (fun j u hj => (World.cell?_of_block (k5 _ (by rw [add_block]; omega))).trans (own2b.cells rfl j u hj)) a1 a2 a3 a4 ro enc (by omega) (by have := Z5.out; omega) (by omega) (fun e => by have := hs0 _ e.symm; omega) req).mono ?_
  rintro e w6 ⟨rfl, v6, enc6⟩
  have lay := layout zs a1 a2 a3 a4 m ps ro
  have hpc := row_kept hps own2b k5 enc6.fr (by have := Z5.out; omega) (by omega) (fun k hk => by have := (hs0 k hk).2; omega)
  have bel6 := below_fr bel5 enc6.fr (by omega) (fun k hk => (hs0 k hk).1) (by have := Z5.out; omega)
  have hoc : ∀ O, ao3 = some ⟨O, 0, none⟩ → ∀ j, j < L → w6.cell? ⟨O, j, none⟩ = some (.int .u8 (zs.getD j 0)) := by
    intro O hO
    have own := own3
    rw [hO] at own
    exact row_kept hz own k5 enc6.fr (by have := Z5.out; omega) (by omega) (fun k hk => by have := (hs0 k hk).2; omega)
  have c6 := enc6.cell
  obtain ⟨ALL, hALL⟩ : ∃ A, A = (zs ++ Mm.be32 (n32 a1) ++ Mm.be64 (n64 a2) ++ Mm.be32 (n32 a3) ++ Mm.be64 (n64 a4) ++ Mm.be32 m ++ ps ++ [bit ro]) := ⟨_, rfl⟩
  rw [← hALL] at lay enc6
  obtain ⟨G, cp6, hv6, hB⟩ := Enc_row enc6 (by have := lay.len; omega)
  have hN := lay.len
  obtain ⟨N, hNN⟩ : ∃ N, ALL.length = N := ⟨_, rfl⟩
  rw [hNN] at hv6 hB hN
  rw [hv6] at c6
  have hN1 : N ≤ L + 29 + m := by omega
  have hN2 : L + 29 + m ≤ N := by omega
  have HC := (show Hid _ from hB)
  have HL := (show Hid _ from lay)
  have HPC := (show Hid _ from hpc)
  have HOC := (show Hid _ from hoc)
  clear hpc own2 own2b e5 hN hNN hALL hv6 enc6 hoc hB lay enc req bel5 k5 Z5 own1 own1c hs0 bel1 bel2 bel3 HO H3 e0
  go_wp2_with fail
  refine (bytes_any w6 _ _ c6).mono ?_
  rintro e w7 ⟨rfl, hw7⟩
  subst hw7
  clear c6
  go_wp2_with fail
  go_loopw [19] (fun i wr => ∃ k : Nat, k ≤ L ∧ i = .int .i64 k ∧ ∃ nq, wr = w7.drewN nq) (fun i _ => L - (intOf i).toNat)
  case atStart => exact ⟨0, Nat.zero_le _, rfl, 0, rfl⟩
  case round =>
    obtain ⟨k, hk, rfl, nq, rfl⟩ := hrel
    by_cases hlt : k < L
    · obtain ⟨O, rfl⟩ := own_addr own3 (by omega)
      have q1 := HC.out k (by omega)
      rw [HL.out.pre k (by omega)] at q1
      have q2 := HOC.out O rfl k hlt
      go_wp2
      go_quiet (fail)
      go_wp2
      go_roundw
      case rel => exact ⟨k + 1, by omega, by go_num, _, rfl⟩
      case measure => simp [intOf]; omega
    · have w1r := back32 a1 b1
      have w2r := back64 a2 b2
      have w3r := back32 a3 b3
      have w4r := back64 a4 b4
      have hbl := bit_le ro
      have hbg := bit_ge ro
      have hbe := bit_eq ro
      have hnn := fun wx => Lib.run_eql_slice_nil (P := Try.prog) wx 25 5 (some ⟨w1.heap.size, 0, none⟩) m m 0 0 Try.underlying25
      have ql : w7.cell? ⟨G, L + 28 + m, none⟩ = some (.int .u8 (bit ro)) := by
        have := HC.out (L + 28 + m) (by omega)
        have e := HL.out.last
        rw [hz, hps] at e
        rw [e] at this
        exact this
      have F1 := HL.out.f1
      have F2 := HL.out.f2
      have F3 := HL.out.f3
      have F4 := HL.out.f4
      have F5 := HL.out.f5
      rw [hz] at F1 F2 F3 F4 F5
      have F1' := (show Hid _ from F1)
      clear F1
      have F2' := (show Hid _ from F2)
      clear F2
      have F3' := (show Hid _ from F3)
      clear F3
      have F4' := (show Hid _ from F4)
      clear F4
      have F5' := (show Hid _ from F5)
      clear F5
      clear HOC hc0 own3
      go_wp2_with fail
      refine (get32_any _ G N cp6 L _ (by omega) ALL (n32 a1) (n32_lt a1) (by omega) (by omega) (by exact F1'.out) (by exact HC.out)).mono ?_
      rintro e x1 ⟨rfl, nq1, rfl⟩
      go_wp2_with fail
      refine (get64_any _ G N cp6 (L + 4) _ (by omega) ALL (n64 a2) (n64_lt a2) (by omega) (by omega) (by exact F2'.out) (by exact HC.out)).mono ?_
      rintro e x2 ⟨rfl, nq2, rfl⟩
      go_wp2_with fail
      refine (get32_any _ G N cp6 (L + 12) _ (by omega) ALL (n32 a3) (n32_lt a3) (by omega) (by omega) (by exact F3'.out) (by exact HC.out)).mono ?_
      rintro e x3 ⟨rfl, nq3, rfl⟩
      go_wp2_with fail
      refine (get64_any _ G N cp6 (L + 16) _ (by omega) ALL (n64 a4) (n64_lt a4) (by omega) (by omega) (by exact F4'.out) (by exact HC.out)).mono ?_
      rintro e x4 ⟨rfl, nq4, rfl⟩
      go_wp2_with fail
      refine (get32_any _ G N cp6 (L + 24) _ (by omega) ALL m (by omega) (by omega) (by omega) (by exact F5'.out) (by exact HC.out)).mono ?_
      rintro e x5 ⟨rfl, nq5, rfl⟩
      go_wp2
      go_loopw [26] (fun i wr => ∃ t : Nat, t ≤ m ∧ i = .int .i64 t ∧ ∃ nq, wr = w7.drewN nq) (fun i _ => m - (intOf i).toNat)
      case atStart => exact ⟨0, Nat.zero_le _, rfl, _, rfl⟩
      case round =>
        obtain ⟨t, ht, rfl, nq6, rfl⟩ := hrel
        by_cases hlt2 : t < m
        · have q1 := HC.out (L + 28 + t) (by omega)
          have e := HL.out.pw t (by omega)
          rw [hz] at e
          rw [e] at q1
          have q2 := HPC.out t hlt2
          clear e
          go_wp2
          go_quiet (fail)
          go_wp2
          go_roundw
          case rel => exact ⟨t + 1, by omega, by go_num, _, rfl⟩
          case measure => simp [intOf]; omega
        · go_wp2
          go_ret
          exact ⟨rfl, ⟨bel6.os, bel6.tape, bel6.output, bel6.size, bel6.block⟩⟩

set_option maxRecDepth 100000 in
set_option maxHeartbeats 400000 in
theorem conn_big0 (w : World) (a0 a5 : Option Addr) (L m c0 c5 : Nat) (a1 a2 a3 a4 : Int) (ro : Bool) (h0 : 1048576 < L) :
    Calls Try.prog 5 #[.slice a0 L c0, .int .i32 a1, .int .i64 a2, .int .i32 a3, .int .i64 a4, .slice a5 m c5, .bool ro] w fun e w' => e = .returned (.bool true) ∧ Below w.heap.size w w' := by
  go_enter Try.func5, Try.ntmps5
  go_wp2
  go_ret
  exact ⟨rfl, Below.refl _ _⟩

set_option maxRecDepth 100000 in
set_option maxHeartbeats 400000 in
theorem conn_big5 (w : World) (a0 a5 : Option Addr) (L m c0 c5 : Nat) (a1 a2 a3 a4 : Int) (ro : Bool) (h0 : ¬ 1048576 < L) (h5 : 1048576 < m) :
    Calls Try.prog 5 #[.slice a0 L c0, .int .i32 a1, .int .i64 a2, .int .i32 a3, .int .i64 a4, .slice a5 m c5, .bool ro] w fun e w' => e = .returned (.bool true) ∧ Below w.heap.size w w' := by
  go_enter Try.func5, Try.ntmps5
  go_wp2
  go_ret
  exact ⟨rfl, Below.refl _ _⟩

set_option maxRecDepth 100000 in
set_option maxHeartbeats 400000 in
theorem conn_bigs (w : World) (a0 a5 : Option Addr) (L m c0 c5 : Nat) (a1 a2 a3 a4 : Int) (ro : Bool) (h0 : ¬ 1048576 < L) (h5 : ¬ 1048576 < m) (hs : 1048576 < L + m) :
    Calls Try.prog 5 #[.slice a0 L c0, .int .i32 a1, .int .i64 a2, .int .i32 a3, .int .i64 a4, .slice a5 m c5, .bool ro] w fun e w' => e = .returned (.bool true) ∧ Below w.heap.size w w' := by
  go_enter Try.func5, Try.ntmps5
  go_wp2
  go_ret
  exact ⟨rfl, Below.refl _ _⟩
end Go.Proofs.Qxb6604618a
