/-
  Contract of FastIntSet.largeToSmall. Condition: numbers from 0 to 1000, at most 300.
-/
import Derived.Test.YtlghbhkpdlkhjaaDoorISh
namespace Go.Proofs.YtlghbhkpdlkhjaaDoor.PIS
open Go.RowKit Go.Proofs.YtlghbhkpdlkhjaaDoorW.PrintWords Go.Proofs.YtlghbhkpdlkhjaaDoorW.PrintLast Go.Proofs.YtlghbhkpdlkhjaaDoorW.PrintMore
set_option linter.unusedVariables false
set_option linter.unusedSimpArgs false
set_option maxRecDepth 100000
set_option maxHeartbeats 400000

/-- the bits of m are the numbers of l below k -/
def BitsTo (m k : Nat) (l : List Int) : Prop := ∀ j : Nat, m.testBit j = true ↔ ((j : Int) ∈ l ∧ j < k)
theorem toSmall_ok (p q : Nat) (l : List Int) (w : World) (v : Value) (h0 : w.cell? ⟨p, 1, none⟩ = some (.pointer (some ⟨q, 0, none⟩))) (h : SpAt w q l) (hs : l.Pairwise (· < ·)) (hb : ∀ x ∈ l, 0 ≤ x ∧ x ≤ 1000) (hl : l.length ≤ 300) :
    Calls Tryd.prog 39 #[.pointer (some ⟨p, 0, none⟩)] w fun e w' => (∃ m : Nat, m < 18446744073709551616 ∧ BitsTo m 64 l ∧ e = .returned (.tuple #[.int .u64 m, .bool (l.any fun x => decide (64 ≤ x))])) ∧ Below w.heap.size w w' := by
  have HL := Aside0.mk (fun x => low_ok q l x w h (by omega))
  have HMi := Aside0.mk (min_ok q l w h (by omega))
  have HMa := Aside0.mk (max_ok q l w h (by omega))
  have gmin := min_neg l (fun x hx => (hb x hx).1)
  have gmax := max_any l hs
  have HS := Aside0.mk (fun x => low_spec x l hs (fun z hz => (hb z hz).2))
  have HB := Aside0.mk hb
  clear h hs hb
  go_enter Tryd.func39, Tryd.ntmps39
  go_wp2_with fail
  refine (HL.out 0).mono ?_
  rintro e w2 ⟨rfl, hw⟩
  subst w2
  go_wp2_with fail
  go_loopw [2, 4] (fun t2 t4 wr => ∃ (k m : Nat), t2 = .int .u64 (m : Int) ∧ t4 = .int .i64 (lowB (k : Int) l) ∧ k ≤ 64 ∧ m < 18446744073709551616 ∧ Aside0 (BitsTo m k l) ∧ wr = w) (fun _ t4 _ => 65 - (intOf t4).toNat)
  case atStart => exact ⟨0, 0, rfl, rfl, by omega, by decide, ⟨fun j => by simp⟩, rfl⟩
  case round =>
    obtain ⟨k, m, rfl, rfl, hk, hm, HT, rfl⟩ := hrel
    obtain ⟨s1, s2⟩ := HS.out (k : Int)
    rcases Int.lt_or_le (lowB (k : Int) l) 64 with hlt | hge
    · rcases s2 with ⟨hmem, hle⟩ | hmax
      · obtain ⟨i, hi⟩ : ∃ i : Nat, lowB (k : Int) l = i := ⟨(lowB (k : Int) l).toNat, by omega⟩
        rw [hi] at s1 hmem hle hlt ⊢
        have hi64 : i < 64 := by omega
        have h2 : 2 ^ i < 18446744073709551616 := Nat.pow_lt_pow_right (by decide) hi64
        have hor : bits BinOp.or IntKind.u64 (m : Int) (IntKind.u64.wrap (2 ^ i)) = ((m ||| 2 ^ i : Nat) : Int) := by
          have e : (2 : Int) ^ i = ((2 ^ i : Nat) : Int) := by push_cast; rfl
          rw [e]
          generalize 2 ^ i = z at h2 ⊢
          have ew : IntKind.u64.wrap (z : Int) = (z : Int) := by rw [IntKind.wrap_u64]; exact Int.emod_eq_of_lt (by omega) (by omega)
          rw [ew, u64_or_nat m z hm h2]
        have HT2 : Aside0 (BitsTo (m ||| 2 ^ i) (i + 1) l) := ⟨fun j => by
          rw [Nat.testBit_or, Bool.or_eq_true, HT.out j, Nat.testBit_two_pow, decide_eq_true_eq]
          constructor
          · rintro (⟨h3, h4⟩ | rfl)
            · exact ⟨h3, by omega⟩
            · exact ⟨hmem, by omega⟩
          · rintro ⟨h3, h4⟩
            rcases Nat.lt_or_ge j k with h5 | h5
            · exact .inl ⟨h3, h5⟩
            · have := s1 (j : Int) h3 (by omega)
              exact .inr (by omega)⟩
        have hm2 : m ||| 2 ^ i < 18446744073709551616 := Nat.or_lt_two_pow (n := 64) hm h2
        obtain ⟨t1, t2⟩ := HS.out ((i + 1 : Nat) : Int)
        have hdec : 65 - (lowB ((i + 1 : Nat) : Int) l).toNat < 65 - i := by
          rcases t2 with ⟨_, h⟩ | h
          · omega
          · rw [h]; simp; omega
        have HL2 := Aside0.mk (HL.out ((i + 1 : Nat) : Int))
        rw [show ((i + 1 : Nat) : Int) = (i : Int) + 1 by omega] at HL2 hdec
        generalize m ||| 2 ^ i = m2 at *
        clear h2 HT s1 hmem hle hi t1 t2 gmin gmax
        go_wp2_with fail
        refine HL2.out.mono ?_
        rintro e w2 ⟨rfl, hw⟩
        subst w2
        go_wp2_with fail
        go_roundw
        case rel => first | exact ⟨i + 1, m2, rfl, by rw [show ((i + 1 : Nat) : Int) = (i : Int) + 1 by omega], by omega, hm2, HT2, rfl⟩ | exact ⟨i + 1, m2, rfl, by rw [show ((i + 1 : Nat) : Int) = (i : Int) + 1 by omega], by omega, hm2, HT2, trivial⟩ | exact ⟨⟨i + 1, m2, rfl, by rw [show ((i + 1 : Nat) : Int) = (i : Int) + 1 by omega], by omega, hm2, HT2⟩, trivial⟩
        case measure => simpa [intOf] using hdec
      · omega
    · have HT2 : Aside0 (BitsTo m 64 l) := ⟨fun j => by
        rw [HT.out j]
        constructor
        · rintro ⟨h3, h4⟩
          exact ⟨h3, by omega⟩
        · rintro ⟨h3, h4⟩
          refine ⟨h3, ?_⟩
          rcases Nat.lt_or_ge j k with h5 | h5
          · exact h5
          · have := s1 (j : Int) h3 (by omega)
            omega⟩
      have g64 : ¬ lowB (k : Int) l < 64 := by omega
      clear s1 s2 HT HS HB HL
      generalize lowB (k : Int) l = y at *
      cases hany : (l.any fun x => decide (64 ≤ x))
      all_goals
        rw [hany] at gmax
        go_wp2_with fail
        refine HMi.out.mono ?_
        rintro e w2 ⟨rfl, hw⟩
        subst w2
        go_wp2_with fail
        refine HMa.out.mono ?_
        rintro e w3 ⟨rfl, hb3⟩
        go_wp2_with fail
        go_ret2
        exact ⟨⟨m, hm, HT2.out, by rw [hany]; first | rfl | simp [gmin, gmax]⟩, hb3⟩
end Go.Proofs.YtlghbhkpdlkhjaaDoor.PIS
