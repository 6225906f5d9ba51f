/-
  The walk of strconv.ParseUint.
-/
import Derived.Test.YthicaehcoingeaaDoorCVa
import Derived.Lib.Strings
namespace Go.Proofs.YthicaehcoingeaaDoor.PTV
open Go.RowKit Go.Proofs.YthicaehcoingeaaDoorW.PrintWords Go.Proofs.YthicaehcoingeaaDoorW.PrintLast Go.Proofs.YthicaehcoingeaaDoorW.PrintMore
set_option linter.unusedVariables false
set_option linter.unusedSimpArgs false
set_option maxRecDepth 1000000
set_option maxHeartbeats 2000000

theorem conv_bytes (s : ByteArray) (W : World) : ∃ (cap : Nat) (cs : Array Value) (fr : Nat × Nat), (convert 9 23 (.string s)).run Tryd.prog W = .ok (.slice (some ⟨W.heap.size, 0, none⟩) s.size cap) (W.drew.alloc (.cells cs 5 fr)) ∧
    ∀ j (h : j < s.size), (W.drew.alloc (.cells cs 5 fr)).cell? ⟨W.heap.size, j, none⟩ = some (.int .u8 ((s[j]'h).toNat : Int)) := by
  refine ⟨_, _, _, run_bytes_of_string (P := Tryd.prog) W 9 23 5 s Tryd.underlying9 Tryd.underlying23 Tryd.underlying5, fun j h => ?_⟩
  have e := World.cell?_alloc_mark W.drew (bytesRow s (grownCap W s.size 0 5)) 5 ((bytesRow s (grownCap W s.size 0 5)).size, (bytesRow s (grownCap W s.size 0 5)).size + 1) j
  have e2 := bytesRow_at s (grownCap W s.size 0 5) j h
  exact e.trans e2

structure Ps (w : World) (A : Nat) (s : ByteArray) (wr : World) : Prop where
  below : Below w.heap.size w wr
  cell : ∀ j (h : j < s.size), wr.cell? ⟨A, j, none⟩ = some (.int .u8 ((s[j]'h).toNat : Int))

theorem cut_enough (b : Nat) (hb2 : 2 ≤ b) : 9223372036854775808 ≤ IntKind.u64.wrap (18446744073709551615 / (b : Int) + 1) * (b : Int) := by
  have h1 : (18446744073709551615 : Int) < (18446744073709551615 / (b : Int) + 1) * (b : Int) := Int.lt_ediv_add_one_mul_self _ (by omega)
  have h2 : (18446744073709551615 : Int) / (b : Int) ≤ 18446744073709551615 / 2 := by
    apply Int.le_ediv_of_mul_le (by decide)
    have h3 := Int.ediv_mul_le (18446744073709551615 : Int) (b := (b : Int)) (by omega)
    have h4 : (18446744073709551615 : Int) / (b : Int) * 2 ≤ (18446744073709551615 : Int) / (b : Int) * (b : Int) := Int.mul_le_mul_of_nonneg_left (by omega) (Int.ediv_nonneg (by decide) (by omega))
    omega
  have h5 : 0 ≤ (18446744073709551615 : Int) / (b : Int) := Int.ediv_nonneg (by decide) (by omega)
  have e : IntKind.u64.wrap (18446744073709551615 / (b : Int) + 1) = 18446744073709551615 / (b : Int) + 1 := by
    simp only [IntKind.wrap]
    have h6 : (18446744073709551615 : Int) / 2 = 9223372036854775807 := by decide
    rw [h6] at h2
    simp [IntKind.bits, IntKind.signed]
    omega
  rw [e]
  omega

theorem isDg_cases {b : Nat} {c : UInt8} (h : isDg b c = true) : ((48 ≤ c.toNat ∧ c.toNat ≤ 57 ∧ dg c = c.toNat - 48) ∨ (65 ≤ c.toNat ∧ c.toNat ≤ 90 ∧ dg c = c.toNat - 55)) ∧ dg c < b := by
  unfold isDg at h
  simp only [Bool.and_eq_true, Bool.or_eq_true, decide_eq_true_eq] at h
  obtain ⟨h1 | h1, h2⟩ := h
  · exact ⟨Or.inl ⟨h1.1, h1.2, by unfold dg; rw [if_pos h1.2]⟩, h2⟩
  · exact ⟨Or.inr ⟨h1.1, h1.2, by unfold dg; rw [if_neg (by omega)]⟩, h2⟩

theorem parse_ok (s : ByteArray) (b : Nat) (w : World) (hb2 : 2 ≤ b) (hb36 : b ≤ 36) (h0 : 0 < s.size) (hl : s.size ≤ 200) (hd : s.data.toList.all (isDg b) = true) (hv : valOf b s.data.toList < 9223372036854775808) :
    Calls Tryd.prog 125 #[.string s, .int .i64 b, .int .i64 64] w fun e w' => e = .returned (.tuple #[.int .u64 (valOf b s.data.toList), .nilIface]) ∧ Below w.heap.size w w' := by
  have HD := Aside0.mk hd
  have HV := Aside0.mk hv
  have hs0 : s.toList.isEmpty = false := by
    rw [Lib.toList_data]
    cases he : s.data.toList with
    | nil => have : s.data.toList.length = s.size := rfl; rw [he, List.length_nil] at this; omega
    | cons _ _ => rfl
  clear hd hv
  obtain ⟨cap, cs, fr, hconv, hcell⟩ := conv_bytes s w
  have HC := Aside0.mk hcell
  clear hcell
  go_enter Tryd.func125, Tryd.ntmps125
  have HQ : ∀ (q : Int), (9223372036854775808 ≤ q * b) → ∀ j (h : j < s.size), (valOf b (s.data.toList.take j) : Int) < q := by
    intro q hq j hj
    have hle := valOf_le b (by omega) s.data.toList (j + 1)
    rw [valOf_take b _ j hj] at hle
    have hlt := HV.out
    generalize valOf b (s.data.toList.take j) = n at hle
    have hnb : n * b < 9223372036854775808 := by omega
    have h1 : ((n * b : Nat) : Int) < 9223372036854775808 := by omega
    rw [Int.natCast_mul] at h1
    exact Int.lt_of_mul_lt_mul_right (Int.lt_of_lt_of_le h1 hq) (by omega)
  have HQ2 := Aside0.mk HQ
  clear HQ
  have k2 : (2 : Int) ≤ (b : Int) := by omega
  have k36 : (b : Int) ≤ 36 := by omega
  have g0 : ((b : Int) == 0) = false := by simp; omega
  have hmax : IntKind.u64.wrap (IntKind.u64.wrap 18446744073709551616 - 1) = 18446744073709551615 := by decide
  by_cases h10 : b = 10
  · have g10 : ((b : Int) == 10) = true := by rw [h10]; rfl
    have HQ3 := Aside0.mk (HQ2.out 1844674407370955162 (by rw [h10]; omega))
    clear h10 HQ2
    go_wp2_with fail
    go_loopw [12, 13, 101] (fun un n i wr => ∃ (j : Nat), j ≤ s.size ∧ un = .bool false ∧ i = .int .i64 j ∧ n = .int .u64 (valOf b (s.data.toList.take j)) ∧ Aside0 (Ps w w.heap.size s wr)) (fun _ _ i _ => s.size - (intOf i).toNat)
    case atStart => exact ⟨0, Nat.zero_le _, rfl, rfl, rfl, ⟨⟨below_alloc (pw_below_drewN (Below.refl _ _) 1) _, HC.out⟩⟩⟩
    case round =>
      clear HC hconv hmax g10
      obtain ⟨j, hj, rfl, rfl, rfl, HP⟩ := hrel
      by_cases hlt : j < s.size
      · have hcell := HP.out.cell j hlt
        have hq1 := HQ3.out j hlt
        have hdj : isDg b s[j] = true := List.all_eq_true.1 HD.out _ (by show s[j] ∈ s.data.toList; have e : s.data.toList[j]'(by exact hlt) = s[j] := rfl; rw [← e]; exact List.getElem_mem _)
        have hstep : valOf b (s.data.toList.take (j + 1)) = valOf b (s.data.toList.take j) * b + dg s[j] := valOf_take b s.data.toList j hlt
        have hle := valOf_le b (by omega) s.data.toList (j + 1)
        have hlim := HV.out
        rw [hstep] at hle
        obtain ⟨hcs, hdb⟩ := isDg_cases hdj
        have HS := Aside0.mk hstep
        clear hstep hdj
        generalize valOf b (s.data.toList.take j) = n at hq1 hle HS ⊢
        have hmul : ((n * b : Nat) : Int) = (n : Int) * (b : Int) := Int.natCast_mul _ _
        have hm0 : 0 ≤ (n : Int) * (b : Int) := by omega
        have hm1 : (n : Int) * (b : Int) + dg s[j] < 9223372036854775808 := by omega
        clear hmul hle hlim
        rcases hcs with ⟨c0, c1, cd⟩ | ⟨c0, c1, cd⟩
        · have e1 : ((dg s[j] : Nat) : Int) = (s[j].toNat : Int) - 48 := by omega
          have e2 : (s[j].toNat : Int) - 48 < (b : Int) := by omega
          rw [e1] at hm1
          clear cd hdb
          have a0 : (48 : Int) ≤ (s[j].toNat : Int) := by omega
          have a1 : (s[j].toNat : Int) ≤ 57 := by omega
          have q95 : ((s[j].toNat : Int) == 95) = false := by simp; omega
          have hnq : decide ((n : Int) ≥ 1844674407370955162) = false := by simp only [decide_eq_false_iff_not, ge_iff_le, Int.not_le]; exact hq1
          clear c0 c1 hq1
          go_wp2_with fail
          go_roundw
          case rel => refine ⟨j + 1, by omega, rfl, by go_num, ?_, HP⟩; rw [HS.out]; congr 1; push_cast; omega
          case measure => simp [intOf]; omega
        · have e1 : ((dg s[j] : Nat) : Int) = (s[j].toNat : Int) - 55 := by omega
          have e2 : (s[j].toNat : Int) - 55 < (b : Int) := by omega
          rw [e1] at hm1
          clear cd hdb
          have a0 : (65 : Int) ≤ (s[j].toNat : Int) := by omega
          have a1 : (s[j].toNat : Int) ≤ 90 := by omega
          have q95 : ((s[j].toNat : Int) == 95) = false := by simp; omega
          have hnq : decide ((n : Int) ≥ 1844674407370955162) = false := by simp only [decide_eq_false_iff_not, ge_iff_le, Int.not_le]; exact hq1
          clear c0 c1 hq1
          go_wp2_with fail
          refine (lower_ok _ (by omega) (by omega) _).mono ?_
          rintro e w' ⟨rfl, rfl⟩
          go_wp2_with fail
          refine (lower_ok _ (by omega) (by omega) _).mono ?_
          rintro e w' ⟨rfl, rfl⟩
          go_wp2_with fail
          refine (lower_ok _ (by omega) (by omega) _).mono ?_
          rintro e w' ⟨rfl, rfl⟩
          go_wp2_with fail
          go_roundw
          case rel => refine ⟨j + 1, by omega, rfl, by go_num, ?_, HP⟩; rw [HS.out]; congr 1; push_cast; omega
          case measure => simp [intOf]; omega
      · obtain rfl : j = s.size := by omega
        have et : s.data.toList.take s.size = s.data.toList := List.take_length
        rw [et]
        clear HQ3
        go_wp2
        go_ret2
        exact ⟨rfl, HP.out.below⟩
  · by_cases h16 : b = 16
    · have g10 : ((b : Int) == 10) = false := by rw [h16]; rfl
      have g16 : ((b : Int) == 16) = true := by rw [h16]; rfl
      have HQ3 := Aside0.mk (HQ2.out 1152921504606846976 (by rw [h16]; omega))
      clear h10 h16 HQ2
      go_wp2_with fail
      go_loopw [12, 13, 101] (fun un n i wr => ∃ (j : Nat), j ≤ s.size ∧ un = .bool false ∧ i = .int .i64 j ∧ n = .int .u64 (valOf b (s.data.toList.take j)) ∧ Aside0 (Ps w w.heap.size s wr)) (fun _ _ i _ => s.size - (intOf i).toNat)
      case atStart => exact ⟨0, Nat.zero_le _, rfl, rfl, rfl, ⟨⟨below_alloc (pw_below_drewN (Below.refl _ _) 1) _, HC.out⟩⟩⟩
      case round =>
        clear HC hconv hmax g10 g16
        obtain ⟨j, hj, rfl, rfl, rfl, HP⟩ := hrel
        by_cases hlt : j < s.size
        · have hcell := HP.out.cell j hlt
          have hq1 := HQ3.out j hlt
          have hdj : isDg b s[j] = true := List.all_eq_true.1 HD.out _ (by show s[j] ∈ s.data.toList; have e : s.data.toList[j]'(by exact hlt) = s[j] := rfl; rw [← e]; exact List.getElem_mem _)
          have hstep : valOf b (s.data.toList.take (j + 1)) = valOf b (s.data.toList.take j) * b + dg s[j] := valOf_take b s.data.toList j hlt
          have hle := valOf_le b (by omega) s.data.toList (j + 1)
          have hlim := HV.out
          rw [hstep] at hle
          obtain ⟨hcs, hdb⟩ := isDg_cases hdj
          have HS := Aside0.mk hstep
          clear hstep hdj
          generalize valOf b (s.data.toList.take j) = n at hq1 hle HS ⊢
          have hmul : ((n * b : Nat) : Int) = (n : Int) * (b : Int) := Int.natCast_mul _ _
          have hm0 : 0 ≤ (n : Int) * (b : Int) := by omega
          have hm1 : (n : Int) * (b : Int) + dg s[j] < 9223372036854775808 := by omega
          clear hmul hle hlim
          rcases hcs with ⟨c0, c1, cd⟩ | ⟨c0, c1, cd⟩
          · have e1 : ((dg s[j] : Nat) : Int) = (s[j].toNat : Int) - 48 := by omega
            have e2 : (s[j].toNat : Int) - 48 < (b : Int) := by omega
            rw [e1] at hm1
            clear cd hdb
            have a0 : (48 : Int) ≤ (s[j].toNat : Int) := by omega
            have a1 : (s[j].toNat : Int) ≤ 57 := by omega
            have q95 : ((s[j].toNat : Int) == 95) = false := by simp; omega
            have hnq : decide ((n : Int) ≥ 1152921504606846976) = false := by simp only [decide_eq_false_iff_not, ge_iff_le, Int.not_le]; exact hq1
            clear c0 c1 hq1
            go_wp2_with fail
            go_roundw
            case rel => refine ⟨j + 1, by omega, rfl, by go_num, ?_, HP⟩; rw [HS.out]; congr 1; push_cast; omega
            case measure => simp [intOf]; omega
          · have e1 : ((dg s[j] : Nat) : Int) = (s[j].toNat : Int) - 55 := by omega
            have e2 : (s[j].toNat : Int) - 55 < (b : Int) := by omega
            rw [e1] at hm1
            clear cd hdb
            have a0 : (65 : Int) ≤ (s[j].toNat : Int) := by omega
            have a1 : (s[j].toNat : Int) ≤ 90 := by omega
            have q95 : ((s[j].toNat : Int) == 95) = false := by simp; omega
            have hnq : decide ((n : Int) ≥ 1152921504606846976) = false := by simp only [decide_eq_false_iff_not, ge_iff_le, Int.not_le]; exact hq1
            clear c0 c1 hq1
            go_wp2_with fail
            refine (lower_ok _ (by omega) (by omega) _).mono ?_
            rintro e w' ⟨rfl, rfl⟩
            go_wp2_with fail
            refine (lower_ok _ (by omega) (by omega) _).mono ?_
            rintro e w' ⟨rfl, rfl⟩
            go_wp2_with fail
            refine (lower_ok _ (by omega) (by omega) _).mono ?_
            rintro e w' ⟨rfl, rfl⟩
            go_wp2_with fail
            go_roundw
            case rel => refine ⟨j + 1, by omega, rfl, by go_num, ?_, HP⟩; rw [HS.out]; congr 1; push_cast; omega
            case measure => simp [intOf]; omega
        · obtain rfl : j = s.size := by omega
          have et : s.data.toList.take s.size = s.data.toList := List.take_length
          rw [et]
          clear HQ3
          go_wp2
          go_ret2
          exact ⟨rfl, HP.out.below⟩
    · have g10 : ((b : Int) == 10) = false := by simp; omega
      have g16 : ((b : Int) == 16) = false := by simp; omega
      have HQ3 := Aside0.mk (HQ2.out (IntKind.u64.wrap (18446744073709551615 / (b : Int) + 1)) (cut_enough b hb2))
      clear h10 h16 HQ2
      go_wp2_with fail
      go_loopw [12, 13, 101] (fun un n i wr => ∃ (j : Nat), j ≤ s.size ∧ un = .bool false ∧ i = .int .i64 j ∧ n = .int .u64 (valOf b (s.data.toList.take j)) ∧ Aside0 (Ps w w.heap.size s wr)) (fun _ _ i _ => s.size - (intOf i).toNat)
      case atStart => exact ⟨0, Nat.zero_le _, rfl, rfl, rfl, ⟨⟨below_alloc (pw_below_drewN (Below.refl _ _) 1) _, HC.out⟩⟩⟩
      case round =>
        clear HC hconv hmax g10 g16
        obtain ⟨j, hj, rfl, rfl, rfl, HP⟩ := hrel
        by_cases hlt : j < s.size
        · have hcell := HP.out.cell j hlt
          have hq1 := HQ3.out j hlt
          have hdj : isDg b s[j] = true := List.all_eq_true.1 HD.out _ (by show s[j] ∈ s.data.toList; have e : s.data.toList[j]'(by exact hlt) = s[j] := rfl; rw [← e]; exact List.getElem_mem _)
          have hstep : valOf b (s.data.toList.take (j + 1)) = valOf b (s.data.toList.take j) * b + dg s[j] := valOf_take b s.data.toList j hlt
          have hle := valOf_le b (by omega) s.data.toList (j + 1)
          have hlim := HV.out
          rw [hstep] at hle
          obtain ⟨hcs, hdb⟩ := isDg_cases hdj
          have HS := Aside0.mk hstep
          clear hstep hdj
          generalize valOf b (s.data.toList.take j) = n at hq1 hle HS ⊢
          have hmul : ((n * b : Nat) : Int) = (n : Int) * (b : Int) := Int.natCast_mul _ _
          have hm0 : 0 ≤ (n : Int) * (b : Int) := by omega
          have hm1 : (n : Int) * (b : Int) + dg s[j] < 9223372036854775808 := by omega
          clear hmul hle hlim
          rcases hcs with ⟨c0, c1, cd⟩ | ⟨c0, c1, cd⟩
          · have e1 : ((dg s[j] : Nat) : Int) = (s[j].toNat : Int) - 48 := by omega
            have e2 : (s[j].toNat : Int) - 48 < (b : Int) := by omega
            rw [e1] at hm1
            clear cd hdb
            have a0 : (48 : Int) ≤ (s[j].toNat : Int) := by omega
            have a1 : (s[j].toNat : Int) ≤ 57 := by omega
            have q95 : ((s[j].toNat : Int) == 95) = false := by simp; omega
            have hnq : decide ((n : Int) ≥ IntKind.u64.wrap (18446744073709551615 / (b : Int) + 1)) = false := by simp only [decide_eq_false_iff_not, ge_iff_le, Int.not_le]; exact hq1
            clear c0 c1 hq1
            go_wp2_with fail
            go_roundw
            case rel => refine ⟨j + 1, by omega, rfl, by go_num, ?_, HP⟩; rw [HS.out]; congr 1; push_cast; omega
            case measure => simp [intOf]; omega
          · have e1 : ((dg s[j] : Nat) : Int) = (s[j].toNat : Int) - 55 := by omega
            have e2 : (s[j].toNat : Int) - 55 < (b : Int) := by omega
            rw [e1] at hm1
            clear cd hdb
            have a0 : (65 : Int) ≤ (s[j].toNat : Int) := by omega
            have a1 : (s[j].toNat : Int) ≤ 90 := by omega
            have q95 : ((s[j].toNat : Int) == 95) = false := by simp; omega
            have hnq : decide ((n : Int) ≥ IntKind.u64.wrap (18446744073709551615 / (b : Int) + 1)) = false := by simp only [decide_eq_false_iff_not, ge_iff_le, Int.not_le]; exact hq1
            clear c0 c1 hq1
            go_wp2_with fail
            refine (lower_ok _ (by omega) (by omega) _).mono ?_
            rintro e w' ⟨rfl, rfl⟩
            go_wp2_with fail
            refine (lower_ok _ (by omega) (by omega) _).mono ?_
            rintro e w' ⟨rfl, rfl⟩
            go_wp2_with fail
            refine (lower_ok _ (by omega) (by omega) _).mono ?_
            rintro e w' ⟨rfl, rfl⟩
            go_wp2_with fail
            go_roundw
            case rel => refine ⟨j + 1, by omega, rfl, by go_num, ?_, HP⟩; rw [HS.out]; congr 1; push_cast; omega
            case measure => simp [intOf]; omega
        · obtain rfl : j = s.size := by omega
          have et : s.data.toList.take s.size = s.data.toList := List.take_length
          rw [et]
          clear HQ3
          go_wp2
          go_ret2
          exact ⟨rfl, HP.out.below⟩
end Go.Proofs.YthicaehcoingeaaDoor.PTV
