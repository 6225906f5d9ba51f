/-
  FnTXBits: for every uint64 the law returns true and leaves the input as it reads. No condition.
  THE SHELL OF A PROOF OF 'Rows.FnTXBitsSaid' ('given.example/pub-abaculus/laws.FnTXBits'), WRITTEN BY PROGRAM (proof-skeleton.mjs) off the guide's own print for that function. Not trusted: Lean checks it.
  YOURS ARE THE HOLES MARKED 'HOLE' (each bears 'sorry'). ALL ELSE IS THE GUIDE's TEMPLATE (howto/template/XProofs.lean) at this function's number and types: leave it.
-/
import Derived.Test.YthicaehcoingeaaRows
import Derived.WalkKit
import Derived.ProofKit
import Derived.OpenShut
import Derived.LoopTactic
import Derived.Laws.Bits64b
import Derived.Lib.Hide
namespace Go.Proofs.Ythicaehcoingeaa.fnTXBits
open Go.ChangeShapes Go.WideShapes Go.ChangeAt Go.RowKit
set_option linter.unusedVariables false      -- a walk need not use every 'w<i>' (that an integer argument fits its kind)

theorem own : ownKnob Try.prog.godebug = none := by kernel_rfl


/-! ### THE PLAIN LAW: no Go in sight -/
def pc : Nat → Nat
  | 0 => 0
  | n + 1 => (n + 1) % 2 + pc ((n + 1) / 2)
theorem pc_zero : pc 0 = 0 := by unfold pc; rfl
theorem pc_eq (n : Nat) : pc n = n % 2 + pc (n / 2) := by
  cases n with
  | zero => simp [pc_zero]
  | succ n => rw [pc]
theorem and_pred_half (n : Nat) (h : 0 < n) : pc (n &&& (n - 1)) + 1 = pc n := by
  induction n using Nat.strongRecOn with
  | _ n ih =>
    have hd : (n &&& (n - 1)) / 2 = n / 2 &&& (n - 1) / 2 := by
      have := @Nat.and_div_two_pow n (n-1) 1; simpa using this
    have hm : (n &&& (n - 1)) % 2 = (n % 2) &&& ((n - 1) % 2) := by
      have := Nat.and_mod_two_pow (a := n) (b := n - 1) (n := 1); simpa using this
    rcases Nat.mod_two_eq_zero_or_one n with h0 | h1
    · have hn : (n - 1) % 2 = 1 := by omega
      have hh : (n - 1) / 2 = n / 2 - 1 := by omega
      have := ih (n / 2) (by omega) (by omega)
      rw [pc_eq (n &&& (n - 1)), pc_eq n, hd, hm, h0, hh]
      simp; omega
    · have hn : (n - 1) % 2 = 0 := by omega
      have hh : (n - 1) / 2 = n / 2 := by omega
      rw [pc_eq (n &&& (n - 1)), pc_eq n, hd, hm, h1, hn, hh]
      simp; omega
theorem pc_compl (k : Nat) : ∀ n, n < 2 ^ k → pc (2 ^ k - 1 - n) + pc n = k := by
  induction k with
  | zero => intro n h; have : n = 0 := by simpa using h
            subst this; simp [pc_zero]
  | succ k ih =>
    intro n h
    have h2 : (2 ^ (k + 1) - 1 - n) / 2 = 2 ^ k - 1 - n / 2 := by rw [Nat.pow_succ] at *; omega
    have h3 : (2 ^ (k + 1) - 1 - n) % 2 + n % 2 = 1 := by rw [Nat.pow_succ] at *; omega
    have := ih (n / 2) (by rw [Nat.pow_succ] at h; omega)
    rw [pc_eq (2 ^ (k + 1) - 1 - n), pc_eq n, h2]; omega
theorem pc_le (k : Nat) : ∀ n, n < 2 ^ k → pc n ≤ k := fun n h => by have := pc_compl k n h; omega

theorem not_u64 (n : Nat) (h : n < 18446744073709551616) : bits .xor .u64 18446744073709551615 (n : Int) = ((18446744073709551615 - n : Nat) : Int) := by
  have h2 : (BitVec.ofInt 64 (n : Int)).toNat = n := by
    rw [BitVec.ofInt_natCast, BitVec.toNat_ofNat]; exact Nat.mod_eq_of_lt (by omega)
  have h1 : BitVec.ofInt 64 18446744073709551615 = BitVec.allOnes 64 := by decide
  show IntKind.u64.wrap ((BitVec.ofInt 64 18446744073709551615 ^^^ BitVec.ofInt 64 (n : Int)).toNat : Int) = _
  rw [h1, BitVec.allOnes_xor, BitVec.toNat_not, h2, IntKind.wrap_u64]
  omega

set_option maxHeartbeats 400000 in
theorem counts (n : Nat) (h : n < 18446744073709551616) (w : World) :
    Calls Try.prog 17 #[.int .u64 (n : Int)] w fun e w' => e = .returned (.int .i32 (pc n : Nat)) ∧ w = w' := by
  have hp := pc_le 64 n (by omega)
  go_enter Try.func17, Try.ntmps17
  go_wp2
  go_loop [0, 3] (fun k r => ∃ (a b : Nat), a < 18446744073709551616 ∧ b + pc a = pc n ∧ k = .int .u64 (a : Int) ∧ r = .int .i32 (b : Int)) (fun k _ => (intOf k).toNat)
  case atStart => exact ⟨n, 0, h, by omega, rfl, rfl⟩
  case round =>
    obtain ⟨a, b, ha, hb, rfl, rfl⟩ := hrel
    by_cases h0 : a = 0
    · subst h0
      have hz : ((0 : Nat) : Int) = 0 := rfl
      go_wp2
      go_ret
      exact ⟨by rw [show b = pc n from by rw [pc_zero] at hb; omega]; rfl, rfl⟩
    · have h1 := and_pred_half a (by omega)
      have h3 : a &&& (a - 1) ≤ a - 1 := Nat.and_le_right
      have hne : (!((a : Int) == 0)) = true := by simp; omega
      have hb' : (b : Int) + (pc a : Nat) = (pc n : Nat) := by omega
      have hb2 : b ≤ 64 := by omega
      go_wp2
      go_round
      case rel =>
        refine ⟨a &&& (a - 1), b + 1, by omega, by omega, ?_, by go_num⟩
        rw [show ((a : Int) - 1) = ((a - 1 : Nat) : Int) from by omega, bits_and_u64_nat _ _ ha (by omega)]
      case measure =>
        rw [show ((a : Int) - 1) = ((a - 1 : Nat) : Int) from by omega, bits_and_u64_nat _ _ ha (by omega)]
        simp [intOf]; omega

theorem counts2 (n : Nat) (h : n < 18446744073709551616) (w : World) :
    Calls Try.prog 12 #[.int .u64 (n : Int)] w fun e w' => e = .returned (.int .i32 (pc n : Nat)) ∧ w = w' := by
  go_enter Try.func12, Try.ntmps12
  go_wp2_with (go_at_call 17; refine (counts _ h _).mono ?_; rintro e w' ⟨rfl, rfl⟩)
  go_ret
  exact ⟨rfl, rfl⟩
theorem counts3 (n : Nat) (h : n < 18446744073709551616) (w : World) :
    Calls Try.prog 7 #[.int .u64 (n : Int)] w fun e w' => e = .returned (.int .i64 (pc n : Nat)) ∧ w = w' := by
  have hp := pc_le 64 n (by omega)
  have hp1 : ((pc n : Nat) : Int) ≤ 64 := by omega
  go_enter Try.func7, Try.ntmps7
  go_wp2_with (go_at_call 12; refine (counts2 _ h _).mono ?_; rintro e w' ⟨rfl, rfl⟩)
  go_ret
  exact ⟨rfl, rfl⟩
set_option maxHeartbeats 400000 in
theorem walk (a0 : Int) (w0 : (Lit.int .u64 a0).wf = true) (w : World) :
    Calls Try.prog 4 #[.int .u64 a0] w fun e w' => e = .returned (.bool true) ∧ Grown w w' := by
  have hb := bounds_u64 w0
  obtain ⟨n, rfl⟩ := Int.eq_ofNat_of_zero_le hb.1
  have h : n < 18446744073709551616 := by omega
  clear hb w0
  have hp := pc_le 64 n (by omega)
  have hc := pc_compl 64 n (by omega)
  have hnot := not_u64 n h
  have hS : Hid ((2 ^ 64 - 1 - n : Nat) = 18446744073709551615 - n) := Lib.hid rfl
  rw [hS.out] at hc
  have HC := Lib.hid hc
  have HN := Lib.hid (show bits .xor .u64 IntKind.u64.max (n : Int) = ((18446744073709551615 - n : Nat) : Int) from hnot)
  clear hc hnot hS
  go_enter Try.func4, Try.ntmps4
  go_wp2
  go_loop [3, 4] (fun r k => ∃ (a b : Nat), a < 18446744073709551616 ∧ b + pc a = pc n ∧ k = .int .u64 (a : Int) ∧ r = .int .i64 (b : Int)) (fun _ k => (intOf k).toNat)
  case atStart => exact ⟨n, 0, h, by omega, rfl, rfl⟩
  case round =>
    obtain ⟨a, b, ha, hb, rfl, rfl⟩ := hrel
    have hb' : (b : Int) + (pc a : Nat) = (pc n : Nat) := by omega
    have hb2 : b ≤ 64 := by omega
    have HB := Lib.hid hb'
    have HB2 := Lib.hid hb
    clear hb hb'
    by_cases h0 : a = 0
    · subst h0
      have hz := pc_zero
      obtain rfl : b = pc n := by have := HB2.out; omega
      clear hz
      go_wp2_with fail
      refine (counts3 _ h _).mono ?_
      rintro e w' ⟨rfl, rfl⟩
      go_wp2_with fail
      · rw [HN.out]
        refine (counts3 _ (by omega) _).mono ?_
        rintro e w' ⟨rfl, rfl⟩
        have hf : (((pc (18446744073709551615 - n) : Nat) : Int) == 64 - (pc n : Nat)) = true := by
          have := HC.out
          exact beq_iff_eq.2 (by omega)
        go_wp2
        go_ret
        exact ⟨rfl, Grown.refl _⟩
    · go_wp2
      go_round
      case rel =>
        have e := pc_eq a
        have h2 := HB2.out
        exact ⟨a / 2, b + a % 2, by have := Nat.div_le_self a 2; omega, by omega, by go_num, by go_num⟩
      case measure => simp [intOf]; omega

/-! ### THE ROW's STEP: WRITTEN OUT: LEAVE IT -/
set_option maxRecDepth 100000 in
theorem lifted (os : Os) (started : os.Started) (H : Type) (enc : TypeId × Value → H) :
    ReturnsInHanded {} Try.checked os 4 .any (Rows.fnTXBitsSpec.pre6 enc Try.prog Try.f4 Rows.fnTXBitsRow.domain false) (Rows.fnTXBitsSpec.post enc Try.prog Try.f4 false true false false) := by
  refine returnsInHanded_of_change (C := Try.checked) own started (by kernel_rfl) Try.func4
    (ChangeSpec.witness6 (enc := enc) (C := Try.checked) false ⟨#[], #[.int .u64 0], []⟩ 8 (by kernel_rfl) (by kernel_rfl) (by kernel_rfl) (by kernel_rfl)) ?_
  intro W base args ds gs before hval0 hW hcnd _
  have hval : ∀ (j : Nat) t v, Try.f4.params[j]? = some t → args[j]? = some v → Value.okWide Try.prog W .any base t v := hval0
  have hW' := hW
  obtain ⟨p, q, hA0, hV, rfl, hfz, hnd⟩ := hW
  have hA : DataW.TrodAll enc Try.prog W 0 (fun _ => true) true Try.f4.params.toList args.toList ds p := hA0
  rw [Try.params4] at hA hval
  obtain ⟨v0, vs0, d0, ds0, p0, q0, hargs, rfl, rfl, h0, r0⟩ := trodAll_cons hA
  obtain ⟨rfl, rfl, rfl⟩ := trodAll_nil r0
  obtain rfl : args = #[v0] := by cases args; simp_all
  obtain ⟨rfl, rfl⟩ := trodVars_none hV
  obtain ⟨a0, rfl, rfl, rfl, w0⟩ := open_int Try.underlying25 (hval 0 25 v0 rfl rfl) h0
  clear hA0 hval0
  simp only [List.append_nil] at hW'
  refine (walk a0 w0 W).mono fun e W' ⟨he, hg⟩ => ?_
  subst he
  exact ⟨_, rfl, post_of_same (pa := []) (pv := []) hW' (fun _ _ _ => (trodAll_cons_mk (shut_bool Try.underlying4 _) trodAll_mk0)) (fun sp _ => (trodAll_cons_mk (shut_int Try.underlying25 w0) trodAll_mk0)) (fun _ _ => rfl) rfl
    (hg.frame _) hg.2.1 (ok_one (by kernel_rfl) rfl (okWide_bool_mk Try.underlying4 _))⟩

theorem over : Rows.fnTXBitsRow.holds Try.pinned (OpenSpec.ofChange Rows.fnTXBitsSpec) :=
  OpenClaim.holds_of_wide 4 Try.f4 rfl rfl rfl rfl rfl rfl rfl ⟨rfl, rfl, rfl, rfl, rfl⟩ rfl rfl rfl rfl rfl (by kernel_rfl) Try.func4 (by kernel_rfl)
    (of_decide_eq_true (by kernel_rfl)) (by unfold Func.isWrapper; first | (rw [if_pos (by decide +kernel)]; kernel_rfl) | (rw [if_neg (by decide +kernel)]; exact ⟨rfl, rfl⟩))
    (fun os started H enc _ => lifted os started H enc)

/-- ████ THE STATEMENT ████ -/
theorem proved : Rows.FnTXBitsSaid :=
  over
#print axioms proved
end Go.Proofs.Ythicaehcoingeaa.fnTXBits
