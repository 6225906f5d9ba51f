/-
  laws.FnLKMatch answers true at every input that its guard lets in: its walk over the contracts. Condition: utf8's two tables as laid.
-/
import Derived.Test.YthicaehcoingeaaDoorLKd
import Derived.Test.YthicaehcoingeaaDoorLKp
import Derived.Laws.Cover4
namespace Go.Proofs.YthicaehcoingeaaDoor.PLK
open Go.RowKit Go.Proofs.YthicaehcoingeaaDoorW.PrintWords Go.Proofs.YthicaehcoingeaaDoorW.PrintLast Go.Proofs.YthicaehcoingeaaDoorW.PrintMore
set_option linter.unusedVariables false
set_option linter.unusedSimpArgs false
set_option maxRecDepth 100000
set_option maxHeartbeats 1000000

theorem conv_r {A : Option Addr} {n c : Nat} {xs : List Int} {w : World} (h : Kd.C (Kd.int .i32) w A n xs) (hn : n = xs.length) : (convert 27 9 (.slice A n c)).run Tryd.prog w = .ok (.string (runesBytes xs)) w := by
  subst hn
  cases A with
  | none =>
    have h0 : xs = [] := by
      rcases Nat.eq_zero_or_pos xs.length with h0 | h0
      · exact List.length_eq_zero_iff.1 h0
      · obtain ⟨ad, e, _⟩ := Kd.at_int h 0 (by omega) (by omega)
        cases e
    subst h0
    exact run_convert_runes_nil w 27 9 21 _ _ Tryd.underlying27 Tryd.underlying21 Tryd.underlying9
  | some a =>
    have hc : ∀ j, j < xs.length → w.cell? (a.add j) = some (.int .i32 (xs.getD j 0)) := by
      intro j hj
      obtain ⟨ad, e, hx⟩ := Kd.at_int h (j : Int) (by omega) (by omega)
      cases e
      rw [Int.toNat_natCast] at hx
      rw [hx]
      rfl
    have h2 := run_convert_runes (P := Tryd.prog) w 27 9 21 a xs.length c xs (Nat.le_refl _) Tryd.underlying27 Tryd.underlying21 Tryd.underlying9 hc
    rwa [List.take_length] at h2
theorem law_call (a0 : Bool) (A1 : Option Addr) (c1 : Nat) (l1 : List Int) (A2 : Option Addr) (c2 : Nat) (l2 : List Int) (w : World) (hg : Glob w) (hr1 : Kd.C (Kd.int .u8) w A1 l1.length l1) (hc1 : l1.length ≤ c1) (hw1 : ∀ x ∈ l1, (Lit.int .u8 x).wf = true)
    (hr2 : Kd.C (Kd.int .u8) w A2 l2.length l2) (hc2 : l2.length ≤ c2) (hw2 : ∀ x ∈ l2, (Lit.int .u8 x).wf = true) :
    Calls Tryd.prog 4 #[.bool a0, .slice A1 l1.length c1, .slice A2 l2.length c2] w fun e w' => e = .returned (.bool true) ∧ Below w.heap.size w w' := by
  obtain ⟨r1, hf1, hok1, hlen1⟩ := text_ok l1 12 (by omega) hw1
  obtain ⟨r2, hf2, hok2, hlen2⟩ := text_ok l2 20 (by omega) hw2
  obtain ⟨ks, hks⟩ := spec_ok a0 r1.length r1 r2 (Nat.le_refl _) hok1 hok2 (by omega)
  have HT1 := Aside0.mk (fun W (h : Kd.C (Kd.int .u8) W A1 l1.length l1) => laws_lkText.calls 200 A1 c1 l1 ((12 : Nat) : Int) r1 W h hc1 hf1)
  have HT2 := Aside0.mk (fun W (h : Kd.C (Kd.int .u8) W A2 l2.length l2) => laws_lkText.calls 200 A2 c2 l2 ((20 : Nat) : Int) r2 W h hc2 hf2)
  have HS := Aside0.mk (fun (A B : Option Addr) (c d : Nat) (W : World) (hV : Kd.V (Kd.int .i32) 21 W W.heap.size (fun _ => True) (.slice A r1.length c) r1) hC hd => spec_LKMatch.calls ks a0 (fun _ => True) A c r1 92 B d r2 (want a0 r1 r2).1 (want a0 r1 r2).2 W hV hC hd hks)
  have HG := Aside0.mk hg
  have HR1 := Aside0.mk hr1
  have HR2 := Aside0.mk hr2
  have HI := Aside0.mk (fun N hN W hW => lk_call a0 r1 r2 N hok1 (by omega) hok2 (by omega) hN W hW)
  clear hg hr1 hr2 hw1 hw2 hf1 hf2 hok1 hok2 hks hc1 hc2
  cases g1 : (decide ((l1.length : Int) > 2147483647))
  · cases g2 : (decide ((l2.length : Int) > 2147483647))
    · have g1' : ¬ 2147483647 < l1.length := by have := of_decide_eq_false g1; omega
      have g2' : ¬ 2147483647 < l2.length := by have := of_decide_eq_false g2; omega
      clear g1 g2
      go_enter Tryd.func4, Tryd.ntmps4
      go_wp2_with fail
      refine (HT1.out _ HR1.out).mono ?_
      rintro e wa ⟨v1, rfl, ho1, hb1⟩
      replace HR2 := Aside0.mk (Kd.C_below HR2.out hb1)
      go_wp2_with fail
      refine (HT2.out _ HR2.out).mono ?_
      rintro e wb ⟨v2, rfl, ho2, hb2⟩
      obtain ⟨B1, d1, rfl⟩ := Kd.R_slice ho1
      obtain ⟨B2, d2, rfl⟩ := Kd.R_slice ho2
      replace ho1 := Kd.R_below ho1 hb2
      have HB := Aside0.mk (below_then hb1 hb1.size hb2)
      have hC1 := (Kd.R_reads' ho1).2.2
      have hC2 := (Kd.R_reads' ho2).2.2
      have hd2 := (Kd.R_reads' ho2).2.1
      have HS2 := Aside0.mk (HS.out B1 B2 d1 d2 wb (Kd.R_V ho1) hC2 hd2)
      have HC1 := Aside0.mk hC1
      have HC2 := Aside0.mk hC2
      clear ho1 ho2 hb1 hb2 hC1 hC2 hd2 HT1 HT2 HS HR1 HR2
      go_wp2_with fail
      refine HS2.out.mono ?_
      rintro e wc ⟨rfl, hb3⟩
      replace HC1 := Aside0.mk (Kd.C_below HC1.out hb3)
      replace HC2 := Aside0.mk (Kd.C_below HC2.out hb3)
      replace HB := Aside0.mk (below_then HB.out HB.out.size hb3)
      have cv1 := conv_r (c := d1) HC1.out rfl
      have cv2 := conv_r (c := d2) HC2.out rfl
      clear HS2 hb3
      unfold want
      cases hN : nodes (gF a0) r1 with
      | none =>
        go_wp2_with fail
        go_ret
        exact ⟨rfl, HB.out⟩
      | some N =>
        have HI2 := Aside0.mk (HI.out N hN wc (HG.out.later HB.out))
        simp only
        generalize mt (gF a0) N r2 = m at *
        clear hN HI HC1 HC2
        go_wp2_with fail
        refine HI2.out.mono ?_
        rintro e wd ⟨rfl, hb4⟩
        replace HB := Aside0.mk (below_then HB.out HB.out.size hb4)
        clear hb4 HI2 cv1 cv2
        go_wp2_with fail
        go_ret
        exact ⟨by first | rfl | simp, HB.out⟩
    · have g1' : ¬ 2147483647 < l1.length := by have := of_decide_eq_false g1; omega
      have g2' : 2147483647 < l2.length := by have := of_decide_eq_true g2; omega
      clear g1 g2
      go_enter Tryd.func4, Tryd.ntmps4
      go_wp2_with fail
      go_ret
      exact ⟨rfl, Below.refl _ _⟩
  · have g1' : 2147483647 < l1.length := by have := of_decide_eq_true g1; omega
    clear g1
    go_enter Tryd.func4, Tryd.ntmps4
    go_wp2_with fail
    go_ret
    exact ⟨rfl, Below.refl _ _⟩
/-- The law's one plain statement: nothing is left of it. -/
def laws_FnLKMatch.Pure : Prop := True
theorem laws_FnLKMatch.walk (P : laws_FnLKMatch.Pure) (a0 : Bool) (a1 : Option Addr) (len1 cap1 : Nat) (z1 : List Int) (a2 : Option Addr) (len2 cap2 : Nat) (z2 : List Int) (w : World) (hg : Glob w) (w1 : (a1 = none ∧ len1 = 0 ∧ cap1 = 0 ∧ z1 = []) ∨ ∃ x, a1 = some x ∧ len1 ≤ cap1 ∧ cap1 ≤ maxLen ∧ z1.length = cap1 ∧ (∀ i, i < z1.length → w.cell? (x.add i) = some (.int .u8 (z1.getD i 0))) ∧ ∀ n ∈ z1, (Lit.int .u8 n).wf = true) (y1 : len1 * 1 ≤ 140737488351232)
    (w2 : (a2 = none ∧ len2 = 0 ∧ cap2 = 0 ∧ z2 = []) ∨ ∃ x, a2 = some x ∧ len2 ≤ cap2 ∧ cap2 ≤ maxLen ∧ z2.length = cap2 ∧ (∀ i, i < z2.length → w.cell? (x.add i) = some (.int .u8 (z2.getD i 0))) ∧ ∀ n ∈ z2, (Lit.int .u8 n).wf = true) (y2 : len2 * 1 ≤ 140737488351232) :
    Calls Tryd.prog 4 #[.bool a0, .slice a1 len1 cap1, .slice a2 len2 cap2] w fun e w' => e = .returned (.bool true) ∧ Below w.heap.size w w' := by
  obtain ⟨l1, rfl, hr1, hm1, hw1, hc1⟩ := ReadsInt.ofRowC w1
  obtain ⟨l2, rfl, hr2, hm2, hw2, hc2⟩ := ReadsInt.ofRowC w2
  exact law_call a0 _ _ l1 _ _ l2 w hg (Kd.C_of_reads (d := (0 : Int)) (h1 := fun _ => rfl) hr1) hc1 hw1 (Kd.C_of_reads (d := (0 : Int)) (h1 := fun _ => rfl) hr2) hc2 hw2
end Go.Proofs.YthicaehcoingeaaDoor.PLK
namespace Go.Proofs.YthicaehcoingeaaDoor.Pure
theorem FnLKMatch : PLK.laws_FnLKMatch.Pure := trivial
end Go.Proofs.YthicaehcoingeaaDoor.Pure
