/-
  Contract of function.convertFromBase at a word of digits and capitals of the base.
-/
import Derived.Test.YthicaehcoingeaaDoorCVu
import Derived.WalkSpells
namespace Go.Proofs.YthicaehcoingeaaDoor.PTV
open Go.RowKit Go.Proofs.YthicaehcoingeaaDoorW.PrintWords Go.Proofs.YthicaehcoingeaaDoorW.PrintLast Go.Proofs.YthicaehcoingeaaDoorW.PrintMore
set_option linter.unusedVariables false
set_option linter.unusedSimpArgs false
set_option maxRecDepth 1000000
set_option maxHeartbeats 4000000

theorem Tabs.later {w w' : World} (h : Tabs w) (hb : Below w.heap.size w w') : Tabs w' := by
  refine ⟨h.1.later hb, ?_⟩
  have h2 := h.2
  have hg : Tryd.prog.globalNamed "internal/strconv.uint64pow10" = some 11 := by kernel_rfl
  unfold Pow10 Lib.TabIs World.var? at h2 ⊢
  rw [hg] at h2 ⊢
  simp only [Option.bind_some] at h2 ⊢
  have hlt : 11 < w.heap.size := by
    rcases Nat.lt_or_ge 11 w.heap.size with h' | h'
    · exact h'
    · rw [Array.getElem?_eq_none h'] at h2; cases h2
  rw [hb.block 11 hlt]
  exact h2

theorem from_base_ok (s : ByteArray) (b : Nat) (w : World) (hg : Tabs w) (hb2 : 2 ≤ b) (hb36 : b ≤ 36) (h0 : 0 < s.size) (hl : s.size ≤ 200) (hd : s.data.toList.all (isDg b) = true) (hv : valOf b s.data.toList < 9223372036854775808)
    (hlen : s.size ≤ (digs b 64 18446744073709551615).length) :
    Calls Tryd.prog 89 #[.string s, .int .i64 b] w fun e w' => e = .returned (.iface 22 (.int .u64 (valOf b s.data.toList))) ∧ Below w.heap.size w w' := by
  obtain ⟨hto, hfrom, _, _, _⟩ := base_float b hb2 hb36
  have k2 : (2 : Int) ≤ (b : Int) := by omega
  have k36 : (b : Int) ≤ 36 := by omega
  have hd0 : isDg b s[0] = true := List.all_eq_true.1 hd _ (by show s[0] ∈ s.data.toList; have e : s.data.toList[0]'(by exact h0) = s[0] := rfl; rw [← e]; exact List.getElem_mem _)
  have q0 := isDg_cases hd0
  have q45 : ((s[0].toNat : Int) == 45) = false := by simp; omega
  have q43 : ((s[0].toNat : Int) == 43) = false := by simp; omega
  have HD := Aside0.mk hd
  have HV := Aside0.mk hv
  have hup : (s.size : Int) ≤ ((⟨(digs b 64 18446744073709551615).toArray⟩ : ByteArray).size : Int) := by
    have e : (⟨(digs b 64 18446744073709551615).toArray⟩ : ByteArray).size = (digs b 64 18446744073709551615).length := by show ((digs b 64 18446744073709551615).toArray).size = _; simp
    rw [e]; omega
  have HL := Aside0.mk hlen
  clear hd hv hlen hd0 q0
  go_enter Tryd.func89, Tryd.ntmps89
  go_wp2_with fail
  refine (abs_ok b hb2 hb36 _).mono ?_
  rintro e w' ⟨rfl, rfl⟩
  go_wp2_with fail
  refine (format_ok 18446744073709551615 b (by decide) hb2 hb36 _ hg).mono ?_
  rintro e w2 ⟨rfl, hb⟩
  have hlo : ¬ (s.size : Int) < 1 := by omega
  have hsz0 : (⟨(digs b 64 18446744073709551615).toArray⟩ : ByteArray).size = (digs b 64 18446744073709551615).length := by show ((digs b 64 18446744073709551615).toArray).size = _; simp
  generalize hU : (⟨(digs b 64 18446744073709551615).toArray⟩ : ByteArray) = U at hup hsz0 ⊢
  have hup2 : ¬ (U.size : Int) < (s.size : Int) := by omega
  have HUP := Aside0.mk (show decide (U.size < s.size) = false from decide_eq_false (by omega))
  clear hU hsz0
  go_wp2_with fail
  go_loopw [9, 10, 11] (fun tr n i wr => ∃ j : Nat, j ≤ s.size ∧ tr = .bool false ∧ n = .int .u64 (valOf b (s.data.toList.take j)) ∧ i = .int .i64 ((j : Int) + 1) ∧ Aside0 (Below w'.heap.size w' wr)) (fun _ _ i _ => s.size + 1 - (intOf i).toNat)
  case atStart => exact ⟨0, Nat.zero_le _, rfl, rfl, rfl, ⟨hb⟩⟩
  case round =>
    obtain ⟨j, hj, rfl, rfl, rfl, HB⟩ := hrel
    clear hb hlo hup hup2
    by_cases hlt : j < s.size
    · have et : (s.extract 0 (j + 1)).data.toList = s.data.toList.take (j + 1) := by simp
      have en : (s.extract 0 (j + 1)).size = j + 1 := by
        show (s.extract 0 (j + 1)).data.toList.length = _
        rw [et, List.length_take]
        have : s.data.toList.length = s.size := rfl
        omega
      have hall : (s.extract 0 (j + 1)).data.toList.all (isDg b) = true := by
        rw [et]
        exact List.all_eq_true.2 fun x hx => List.all_eq_true.1 HD.out x (List.mem_of_mem_take hx)
      have hval : valOf b (s.extract 0 (j + 1)).data.toList < 9223372036854775808 := by
        rw [et]
        exact Nat.lt_of_le_of_lt (valOf_le b (by omega) _ _) HV.out
      have HP := Aside0.mk (fun W => parseUint_ok (s.extract 0 (j + 1)) b W hb2 hb36 (by omega) (by omega) hall hval)
      have HE := Aside0.mk et
      clear et en hall hval
      go_wp2_with fail
      refine (HP.out _).mono ?_
      rintro e wy ⟨rfl, hb'⟩
      rw [HE.out]
      have HB2 := Aside0.mk (below_then HB.out HB.out.size hb')
      clear HP HE HB hb'
      go_wp2_with fail
      go_roundw
      case rel =>
        simp only [HUP.out]
        have e1 : Value.int .i64 ((j : Int) + 1 + 1) = .int .i64 (((j + 1 : Nat) : Int) + 1) := by go_num
        exact ⟨_, _, _, _, _, _, _, _, _, _, _, _, _, _, _, _, _, _, _, _, _, _, _, _, _, _, _, _, _, ⟨j + 1, Nat.succ_le_of_lt hlt, rfl, rfl, e1, HB2⟩, rfl⟩
      case measure => simp [intOf]; omega
    · obtain rfl : j = s.size := by omega
      have et : s.data.toList.take s.size = s.data.toList := List.take_length
      rw [et]
      go_wp2_with fail
      go_ret
      exact ⟨rfl, HB.out⟩
end Go.Proofs.YthicaehcoingeaaDoor.PTV
