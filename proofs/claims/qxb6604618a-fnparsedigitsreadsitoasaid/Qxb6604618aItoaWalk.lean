import Derived.Test.Qxb6604618aPdWalk
import Derived.Test.Qxb6604618aPlainI
namespace Go.Proofs.Qxb6604618a
open Go.RowKit

theorem Try.info5 : (Try.prog.info? 5).map (fun i => (i.zero, i.size, i.bytes)) = some (some (.int .u8 0), 1, 1) := by kernel_rfl

theorem zz_at (L : List UInt8) (v : Int) (w : World) (hs : L.length ≤ 1048576) (h : Pd.allD L = true) (hv : Pd.pv L = v) :
    Calls Try.prog 7 #[.string ⟨L.toArray⟩] w fun e w' => e = .returned (.tuple #[.int .i64 v, .bool true]) ∧ w' = w := by
  refine (zzpd_any ⟨L.toArray⟩ w (by unfold maxLen; show L.toArray.size ≤ _; simp; omega)).mono ?_
  rintro e w' ⟨rfl, rfl⟩
  exact ⟨by rw [Pd.pn_of h, h, hv], rfl⟩

set_option maxHeartbeats 400000 in
theorem itoa_any (v : Int) (z : Nat) (w : World) (h0 : 0 ≤ v) (h1 : v ≤ 9223372036854775807) (hz : z ≤ 65536) :
    Calls Try.prog 4 #[.int .i64 v, .int .i64 (z : Int)] w fun e w' => e = .returned (.bool true) ∧ Below w.heap.size w w' := by
  obtain ⟨i0, hi, hz0, hz1, hz2⟩ := info_parts Try.info5
  go_enter Try.func4, Try.ntmps4
  go_wp2_with (at_make; refine wpList_make_own _ rfl _ _ 25 rfl w.heap.size 5 i0 (.int .u8 0) 1 Try.underlying25 hi hz0 hz1 _ _ _ (z + 19) rfl rfl (by omega) ?b2 ?b3 (Nat.le_refl _) ?_)
  case b2 => rw [hz2]; omega
  case b3 => unfold maxLen; omega
  intro w0 hown0 hgrow0
  go_wp2
  go_loopw [5, 6] (fun out i wr => ∃ k : Nat, k ≤ z ∧ i = .int .i64 k ∧ out = .slice (some ⟨w.heap.size, 0, none⟩) k (z + 19) ∧
      wr.ownsRow w.heap.size 5 1 (.slice (some ⟨w.heap.size, 0, none⟩) k (z + 19)) k (Pd.bv (List.replicate k 48)) ∧ Below w.heap.size w wr)
    (fun _ i _ => z - (intOf i).toNat)
  case atStart => exact ⟨0, Nat.zero_le _, rfl, rfl, hown0, (Below.refl _ _).grown hgrow0 (Nat.le_refl _) (fun k h => by cases h)⟩
  case round =>
    obtain ⟨k, hk, rfl, rfl, hown, hnx⟩ := hrel
    by_cases hlt : k < z
    · go_wp2_with (at_builtin; refine wpList_append_fits _ rfl _ _ 25 rfl w.heap.size 5 i0 1 Try.underlying25 hi hz1 w.heap.size k (z + 19) _ rfl (hown.alloc _) ⟨wr.heap.size, 0, none⟩ 1 1 [.int .u8 48] rfl rfl ?c1 ?c2 ?c3 ?_)
      case c1 => intro j u hj; match j, hj with | 0, hj => simp at hj; subst hj; simp [Addr.add]
      case c2 => intro u hu; simp at hu; subst hu; rfl
      case c3 => omega
      intro w1 hown1 hgrow1
      go_wp2
      go_roundw
      case rel => exact ⟨k + 1, by omega, by go_num, rfl, by rw [List.replicate_succ', Pd.bv_app]; exact hown1, (hnx.alloc hnx.size _).grown hgrow1 (by simp; have := hnx.size; omega) (fun k hk => by cases hk; exact Nat.le_refl _)⟩
      case measure => simp [intOf]; omega
    · have hkz : k = z := by omega
      subst hkz
      clear hlt
      have hB := (hown.lt _ rfl).2
      have hsz := hnx.size
      have st0 : (v == 0) = true → ∃ (j : Nat) (X : Int) (pre : List Value) (D : List UInt8), pre.length = j ∧ j + D.length = 19 ∧ Value.int .i64 18 = .int .i64 (j : Int) ∧ Value.int .i64 v = .int .i64 X ∧ 0 ≤ X ∧ X * 10 ^ D.length + Pd.ew D = v ∧ Pd.allD D = true ∧
            (wr.alloc (.cells #[.int .u8 0, .int .u8 0, .int .u8 0, .int .u8 0, .int .u8 0, .int .u8 0, .int .u8 0, .int .u8 0, .int .u8 0, .int .u8 0, .int .u8 0, .int .u8 0, .int .u8 0, .int .u8 0, .int .u8 0, .int .u8 0, .int .u8 0, .int .u8 0, .int .u8 48] 26)).ownsRow w.heap.size 5 1 (.slice (some ⟨w.heap.size, 0, none⟩) k (k + 19)) k (Pd.bv (List.replicate k 48)) ∧
            (wr.alloc (.cells #[.int .u8 0, .int .u8 0, .int .u8 0, .int .u8 0, .int .u8 0, .int .u8 0, .int .u8 0, .int .u8 0, .int .u8 0, .int .u8 0, .int .u8 0, .int .u8 0, .int .u8 0, .int .u8 0, .int .u8 0, .int .u8 0, .int .u8 0, .int .u8 0, .int .u8 48] 26)).ownsRow w.heap.size 26 1 (.slice (some ⟨wr.heap.size, 0, none⟩) 19 19) 19 (pre ++ Pd.bv D) ∧
            Below w.heap.size w (wr.alloc (.cells #[.int .u8 0, .int .u8 0, .int .u8 0, .int .u8 0, .int .u8 0, .int .u8 0, .int .u8 0, .int .u8 0, .int .u8 0, .int .u8 0, .int .u8 0, .int .u8 0, .int .u8 0, .int .u8 0, .int .u8 0, .int .u8 0, .int .u8 0, .int .u8 0, .int .u8 48] 26)) :=
        fun e => ⟨18, v, List.replicate 18 (.int .u8 0), [48], rfl, rfl, rfl, rfl, h0, by rw [show v = 0 by simpa using e]; rfl, rfl, hown.alloc _, World.ownsRow_lit wr _ 19 (by omega) (by unfold maxLen; omega) rfl, hnx.alloc hsz _⟩
      have st1 : ∃ (j : Nat) (X : Int) (pre : List Value) (D : List UInt8), pre.length = j ∧ j + D.length = 19 ∧ Value.int .i64 19 = .int .i64 (j : Int) ∧ Value.int .i64 v = .int .i64 X ∧ 0 ≤ X ∧ X * 10 ^ D.length + Pd.ew D = v ∧ Pd.allD D = true ∧
            (wr.alloc (.cells #[.int .u8 0, .int .u8 0, .int .u8 0, .int .u8 0, .int .u8 0, .int .u8 0, .int .u8 0, .int .u8 0, .int .u8 0, .int .u8 0, .int .u8 0, .int .u8 0, .int .u8 0, .int .u8 0, .int .u8 0, .int .u8 0, .int .u8 0, .int .u8 0, .int .u8 0] 26)).ownsRow w.heap.size 5 1 (.slice (some ⟨w.heap.size, 0, none⟩) k (k + 19)) k (Pd.bv (List.replicate k 48)) ∧
            (wr.alloc (.cells #[.int .u8 0, .int .u8 0, .int .u8 0, .int .u8 0, .int .u8 0, .int .u8 0, .int .u8 0, .int .u8 0, .int .u8 0, .int .u8 0, .int .u8 0, .int .u8 0, .int .u8 0, .int .u8 0, .int .u8 0, .int .u8 0, .int .u8 0, .int .u8 0, .int .u8 0] 26)).ownsRow w.heap.size 26 1 (.slice (some ⟨wr.heap.size, 0, none⟩) 19 19) 19 (pre ++ Pd.bv D) ∧
            Below w.heap.size w (wr.alloc (.cells #[.int .u8 0, .int .u8 0, .int .u8 0, .int .u8 0, .int .u8 0, .int .u8 0, .int .u8 0, .int .u8 0, .int .u8 0, .int .u8 0, .int .u8 0, .int .u8 0, .int .u8 0, .int .u8 0, .int .u8 0, .int .u8 0, .int .u8 0, .int .u8 0, .int .u8 0] 26)) :=
        ⟨19, v, List.replicate 19 (.int .u8 0), [], rfl, rfl, rfl, rfl, h0, by simp [Pd.ew], rfl, hown.alloc _, World.ownsRow_lit wr _ 19 (by omega) (by unfold maxLen; omega) rfl, hnx.alloc hsz _⟩
      have S0 := (show Hid _ from st0)
      have S1 := (show Hid _ from st1)
      clear st0 st1 hown hnx
      obtain ⟨T, hT⟩ : ∃ T, wr.heap.size = T := ⟨_, rfl⟩
      rw [hT] at S0 S1 hB
      cases hv : (v == 0)
      all_goals
        go_wp2
        go_loopw [8, 9] (fun kk x wr => ∃ (j : Nat) (X : Int) (pre : List Value) (D : List UInt8), pre.length = j ∧ j + D.length = 19 ∧ kk = .int .i64 (j : Int) ∧ x = .int .i64 X ∧ 0 ≤ X ∧ X * 10 ^ D.length + Pd.ew D = v ∧ Pd.allD D = true ∧
            wr.ownsRow w.heap.size 5 1 (.slice (some ⟨w.heap.size, 0, none⟩) k (k + 19)) k (Pd.bv (List.replicate k 48)) ∧ wr.ownsRow w.heap.size 26 1 (.slice (some ⟨T, 0, none⟩) 19 19) 19 (pre ++ Pd.bv D) ∧ Below w.heap.size w wr)
          (fun _ x _ => (intOf x).toNat)
        case atStart => first | exact S1.out | exact S0.out hv
        clear S0 S1
        case round =>
          obtain ⟨j, X, pre, D, hpre, hjD, rfl, rfl, hX, hinv, hall, hown, htmp, hnx⟩ := hrel
          have HI : Hid (X * 10 ^ D.length + Pd.ew D = v) := hinv
          have HP : Hid (pre.length = j) := hpre
          have HA : Hid (Pd.allD D = true) := hall
          by_cases hX0 : 0 < X
          · have hD := Pd.len_lt X v D (by omega) hall hinv hX0 h1
            have hXv := Pd.x_le X v D hall hinv hX
            clear hinv hpre hall
            obtain ⟨i, rfl⟩ : ∃ i, j = i + 1 := ⟨j - 1, by omega⟩
            have hle : i < 19 := by omega
            obtain ⟨u, hu⟩ : ∃ u, wr.cell? ⟨T, i, none⟩ = some u := ⟨_, (htmp.cellAt i (by omega)).trans (List.getElem?_eq_getElem (by have := HP.out; simp; omega))⟩
            have hfz := htmp.frozenAt i
            go_wp2
            go_roundw
            case rel => exact ⟨i, X / 10, pre.take i, Pd.dg X :: D, by have := HP.out; simp; omega, by simp; omega, by go_num, rfl, by omega, Pd.inv_step X v D HI.out, Pd.allD_dg X D HA.out, Pd.owns_set_other hown (by show T ≠ w.heap.size; omega) _, Pd.store_dg htmp HP.out, hnx.setCell (by show w.heap.size ≤ T; omega) _⟩
            case measure => simp [intOf]; omega
          · have HX : Hid (X = 0) := (show X = 0 by omega)
            clear hinv hpre hall
            go_wp2
            go_loopw [5, 10] (fun out si wr => ∃ t : Nat, t ≤ D.length ∧ si = .int .i64 ((j + t : Nat) : Int) ∧ out = .slice (some ⟨w.heap.size, 0, none⟩) (k + t) (k + 19) ∧
                wr.ownsRow w.heap.size 5 1 (.slice (some ⟨w.heap.size, 0, none⟩) (k + t) (k + 19)) (k + t) (Pd.bv (List.replicate k 48 ++ D.take t)) ∧ wr.ownsRow w.heap.size 26 1 (.slice (some ⟨T, 0, none⟩) 19 19) 19 (pre ++ Pd.bv D) ∧ Below w.heap.size w wr)
              (fun _ si _ => 19 - (intOf si).toNat)
            case atStart => exact ⟨0, Nat.zero_le _, rfl, rfl, by simpa using hown, htmp, hnx⟩
            case round =>
              clear hown htmp hnx
              obtain ⟨t, ht, rfl, rfl, hown, htmp, hnx⟩ := hrel
              by_cases hlt : t < D.length
              · have hc : wr.cell? ⟨T, j + t, none⟩ = some (.int .u8 (D[t].toNat : Int)) := (htmp.cellAt (j + t) (by omega)).trans (by rw [← HP.out]; exact Pd.app_at pre D t hlt)
                go_wp2_with (at_builtin; refine wpList_append_fits _ rfl _ _ 25 rfl w.heap.size 5 i0 1 Try.underlying25 hi hz1 w.heap.size (k + t) (k + 19) _ rfl (hown.alloc _) ⟨wr.heap.size, 0, none⟩ 1 1 [.int .u8 (D[t].toNat : Int)] rfl rfl ?c1 ?c2 ?c3 ?_)
                case c1 => intro j u hj; match j, hj with | 0, hj => simp at hj; subst hj; simp [Addr.add]
                case c2 => intro u hu; simp at hu; subst hu; rfl
                case c3 => omega
                intro w1 hown1 hgrow1
                go_wp2
                go_roundw
                case rel => exact ⟨t + 1, by omega, by go_num, rfl, by rw [Pd.take_snoc' D t hlt, ← List.append_assoc, Pd.bv_app]; exact hown1, (htmp.alloc _).kept hgrow1 (Or.inr (by simp [Value.ownBlock]; omega)), (hnx.alloc hnx.size _).grown hgrow1 (by simp; have := hnx.size; omega) (fun k hk => by cases hk; exact Nat.le_refl _)⟩
                case measure => simp [intOf]; omega
              · have HL : Hid ((List.replicate k (48 : UInt8) ++ D).length = k + t) := by show (List.replicate k (48 : UInt8) ++ D).length = k + t; simp; omega
                have HC : ∀ L : List UInt8, L = List.replicate k 48 ++ D → L.length = k + t → (convert 25 9 (.slice (some ⟨w.heap.size, 0, none⟩) (k + t) (k + 19))).run Try.prog wr = .ok (.string ⟨L.toArray⟩) wr := by
                  intro L hL hlen
                  rw [← hlen]
                  refine run_convert_bytes_back wr 25 9 5 ⟨w.heap.size, 0, none⟩ (k + 19) L Try.underlying25 Try.underlying5 Try.underlying9 fun i hi => ?_
                  have := hown.cells rfl i (.int .u8 (L[i].toNat : Int)) (by rw [List.take_of_length_le (by omega), ← hL]; exact Pd.bv_at L i hi)
                  exact this
                obtain ⟨L, hL⟩ : ∃ L, L = List.replicate k (48 : UInt8) ++ D := ⟨_, rfl⟩
                have hconv := HC L hL (by rw [hL]; exact HL.out)
                have hew : Pd.ew D = v := by have := HI.out; rw [HX.out] at this; omega
                have hall : Pd.allD L = true := by rw [hL]; exact Pd.allD_zeros k D HA.out
                have hpv : Pd.pv L = v := by rw [hL]; exact Pd.pv_zeros k D v hew h0 h1
                have hLs : L.length ≤ 1048576 := by rw [hL, HL.out]; omega
                clear HC HL hL hew HX HI HA HP
                go_wp2_with (go_at_call 7; refine (zz_at L v _ hLs hall hpv).mono ?_; rintro e w' ⟨rfl, rfl⟩)
                go_ret
                exact ⟨by simp, hnx⟩
end Go.Proofs.Qxb6604618a
