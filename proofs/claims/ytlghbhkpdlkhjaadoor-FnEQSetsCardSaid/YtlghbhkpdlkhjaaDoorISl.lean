/-
  Contracts of FastIntSet.Equals, SubsetOf, Intersects. Condition: rising numbers from 0 to 1000, at most 300; math/bits.deBruijn64tab as laid.
-/
import Derived.Test.YtlghbhkpdlkhjaaDoorISj
import Derived.Test.YtlghbhkpdlkhjaaDoorISk
namespace Go.Proofs.YtlghbhkpdlkhjaaDoor.PIS
open Go.RowKit Go.Proofs.YtlghbhkpdlkhjaaDoorW.PrintWords Go.Proofs.YtlghbhkpdlkhjaaDoorW.PrintLast Go.Proofs.YtlghbhkpdlkhjaaDoorW.PrintMore
set_option linter.unusedVariables false
set_option linter.unusedSimpArgs false
set_option maxRecDepth 100000
set_option maxHeartbeats 400000

theorem below2 (w : World) (o1 o2 : Obj) : Below w.heap.size w ((w.alloc o1).alloc o2) := below_then (below_alloc (Below.refl _ _) _) (by simp) (below_alloc (Below.refl _ _) _)
theorem beq_swap (x y : Int) : (x == y) = (y == x) := by rw [Bool.eq_iff_iff, beq_iff_eq, beq_iff_eq]; exact eq_comm
theorem equals_ok (a b : List Int) (v1 v2 : Value) (w : World) (h1 : SetV w v1 a) (h2 : SetV w v2 b) (ha : ∀ x ∈ a, 0 ≤ x ∧ x ≤ 1000) (hb : ∀ x ∈ b, 0 ≤ x ∧ x ≤ 1000) (la : a.length ≤ 300) (lb : b.length ≤ 300) :
    Calls Tryd.prog 21 #[v1, v2] w fun e w' => e = .returned (.bool (decide (a = b))) ∧ Below w.heap.size w w' := by
  obtain ⟨sa, ⟨m1, hm1, rfl, b1⟩ | ⟨q1, rfl, p1⟩⟩ := h1
  · obtain ⟨sb, ⟨m2, hm2, rfl, b2⟩ | ⟨q2, rfl, p2⟩⟩ := h2
    · have he := eq_bits hm1 hm2 b1 b2 sa sb
      rw [← he]
      clear he b1 b2 sa sb ha hb la lb hm1 hm2
      go_enter Tryd.func21, Tryd.ntmps21
      go_wp2
      go_ret
      exact ⟨rfl, below2 _ _ _⟩
    · have HZ := Aside0.mk (fun W h0 hB => toSmall_ok (w.heap.size + 1) q2 b W .nilIface h0 (p2.later hB) sb hb lb)
      have HE := Aside0.mk (fun (m : Nat) (hm : m < 18446744073709551616) (hT : BitsTo m 64 b) => eq_mixed hm1 hm b1 hT sa sb (fun x hx => (hb x hx).1))
      generalize (b.any fun x => decide (64 ≤ x)) = r at *
      clear b1 p2 sa sb ha hb la lb hm1
      go_enter Tryd.func21, Tryd.ntmps21
      go_wp2_with fail
      refine (HZ.out _ (by simp [go_sem]) (below2 _ _ _)).mono ?_
      rintro e w3 ⟨⟨m', hm', hT, rfl⟩, hb3⟩
      have he := Aside0.mk (HE.out m' hm' hT)
      have HB := Aside0.mk (below_then (below2 w _ _) (by simp; omega) hb3)
      clear hT hm' hb3 HE HZ
      cases r
      all_goals
        go_wp2_with fail
        go_ret
        exact ⟨by rw [← he.out]; first | rfl | simp, HB.out⟩
  · obtain ⟨sb, ⟨m2, hm2, rfl, b2⟩ | ⟨q2, rfl, p2⟩⟩ := h2
    · have HZ := Aside0.mk (fun W h0 hB => toSmall_ok w.heap.size q1 a W .nilIface h0 (p1.later hB) sa ha la)
      have HE := Aside0.mk (fun (m : Nat) (hm : m < 18446744073709551616) (hT : BitsTo m 64 a) => eq_mixed hm2 hm b2 hT sb sa (fun x hx => (ha x hx).1))
      rw [show decide (a = b) = decide (b = a) from decide_eq_decide.2 eq_comm]
      generalize (a.any fun x => decide (64 ≤ x)) = r at *
      clear b2 p1 sa sb ha hb la lb hm2
      go_enter Tryd.func21, Tryd.ntmps21
      go_wp2_with fail
      refine (HZ.out _ (by simp [go_sem]) (below2 _ _ _)).mono ?_
      rintro e w3 ⟨⟨m', hm', hT, rfl⟩, hb3⟩
      have he := HE.out m' hm' hT
      rw [beq_swap] at he
      have HE' := Aside0.mk he
      have HB := Aside0.mk (below_then (below2 w _ _) (by simp; omega) hb3)
      clear he hT hm' hb3 HE HZ
      cases r
      all_goals
        go_wp2_with fail
        go_ret
        exact ⟨by rw [← HE'.out]; first | rfl | simp, HB.out⟩
    · have HS := Aside0.mk (fun W hB => speq_ok q1 q2 a b W (p1.later hB) (p2.later hB) (by omega) (by omega))
      have he := eq_lists sa sb
      rw [he] at HS
      generalize decide (a = b) = r at *
      clear p1 p2 sa sb ha hb la lb he
      go_enter Tryd.func21, Tryd.ntmps21
      go_wp2_with fail
      refine (HS.out _ (below2 _ _ _)).mono ?_
      rintro e w3 ⟨rfl, hb3⟩
      have HB := Aside0.mk (below_then (below2 w _ _) (by simp; omega) hb3)
      clear hb3 HS
      go_wp2_with fail
      go_ret
      exact ⟨rfl, HB.out⟩

theorem subset_of_ok (a b : List Int) (v1 v2 : Value) (w : World) (h1 : SetV w v1 a) (h2 : SetV w v2 b) (ha : ∀ x ∈ a, 0 ≤ x ∧ x ≤ 1000) (hb : ∀ x ∈ b, 0 ≤ x ∧ x ≤ 1000) (la : a.length ≤ 300) (lb : b.length ≤ 300) :
    Calls Tryd.prog 22 #[v1, v2] w fun e w' => e = .returned (.bool (decide (∀ x ∈ a, x ∈ b))) ∧ Below w.heap.size w w' := by
  obtain ⟨sa, ⟨m1, hm1, rfl, b1⟩ | ⟨q1, rfl, p1⟩⟩ := h1
  · obtain ⟨sb, ⟨m2, hm2, rfl, b2⟩ | ⟨q2, rfl, p2⟩⟩ := h2
    · have he := sub_bits hm1 b1 (b2.to hm2)
      rw [← he]
      have hand := u64_and_nat m1 m2 hm1 hm2
      generalize m1 &&& m2 = m3 at *
      clear he b1 b2 sa sb ha hb la lb hm1 hm2
      go_enter Tryd.func22, Tryd.ntmps22
      go_wp2
      go_ret
      exact ⟨by first | rfl | simp [hand], below2 _ _ _⟩
    · have HZ := Aside0.mk (fun W h0 hB => toSmall_ok (w.heap.size + 1) q2 b W .nilIface h0 (p2.later hB) sb hb lb)
      have HE := Aside0.mk (fun (m : Nat) (hm : m < 18446744073709551616) (hT : BitsTo m 64 b) => (⟨sub_bits hm1 b1 hT, u64_and_nat m1 m hm1 hm⟩ : _ ∧ _))
      generalize (b.any fun x => decide (64 ≤ x)) = r at *
      clear b1 p2 sa sb ha hb la lb hm1
      go_enter Tryd.func22, Tryd.ntmps22
      go_wp2_with fail
      refine (HZ.out _ (by simp [go_sem]) (below2 _ _ _)).mono ?_
      rintro e w3 ⟨⟨m', hm', hT, rfl⟩, hb3⟩
      obtain ⟨he, hand⟩ := HE.out m' hm' hT
      have HE' := Aside0.mk he
      have HB := Aside0.mk (below_then (below2 w _ _) (by simp; omega) hb3)
      clear he hT hm' hb3 HE HZ
      generalize m1 &&& m' = m3 at *
      go_wp2_with fail
      go_ret
      exact ⟨by rw [← HE'.out]; first | rfl | simp [hand], HB.out⟩
  · obtain ⟨sb, ⟨m2, hm2, rfl, b2⟩ | ⟨q2, rfl, p2⟩⟩ := h2
    · have HZ := Aside0.mk (fun W h0 hB => toSmall_ok w.heap.size q1 a W .nilIface h0 (p1.later hB) sa ha la)
      have HE := Aside0.mk (fun (m : Nat) (hm : m < 18446744073709551616) (hT : BitsTo m 64 a) (h1 : (a.any fun x => decide (64 ≤ x)) = false) => (⟨sub_bits hm (hT.bits (fun x hx => (ha x hx).1) h1) (b2.to hm2), u64_and_nat m m2 hm hm2⟩ : _ ∧ _))
      have HN := Aside0.mk (fun h => sub_any (a := a) b2 h)
      generalize (a.any fun x => decide (64 ≤ x)) = r at *
      clear b2 p1 sa sb ha hb la lb hm2
      go_enter Tryd.func22, Tryd.ntmps22
      go_wp2_with fail
      refine (HZ.out _ (by simp [go_sem]) (below2 _ _ _)).mono ?_
      rintro e w3 ⟨⟨m', hm', hT, rfl⟩, hb3⟩
      have HB := Aside0.mk (below_then (below2 w _ _) (by simp; omega) hb3)
      cases r
      · obtain ⟨he, hand⟩ := HE.out m' hm' hT rfl
        have HE' := Aside0.mk he
        clear he hT hm' hb3 HE HZ HN
        generalize m' &&& m2 = m3 at *
        go_wp2_with fail
        go_ret
        exact ⟨by rw [← HE'.out]; first | rfl | simp [hand], HB.out⟩
      · have hn := Aside0.mk (HN.out rfl)
        clear hT hm' hb3 HE HZ HN
        go_wp2_with fail
        go_ret
        exact ⟨by rw [hn.out]; rfl, HB.out⟩
    · have HS := Aside0.mk (fun W hB => subset_ok q1 q2 a b W (p1.later hB) (p2.later hB) (by omega) (by omega))
      rw [sub_lists sb] at HS
      generalize decide (∀ x ∈ a, x ∈ b) = r at *
      clear p1 p2 sa sb ha hb la lb
      go_enter Tryd.func22, Tryd.ntmps22
      go_wp2_with fail
      refine (HS.out _ (below2 _ _ _)).mono ?_
      rintro e w3 ⟨rfl, hw⟩
      subst w3
      clear HS
      go_wp2_with fail
      go_ret
      exact ⟨rfl, below2 _ _ _⟩
theorem toLarge_old (p q : Nat) (w : World) (h1 : w.cell? ⟨p, 1, none⟩ = some (.pointer (some ⟨q, 0, none⟩))) : Calls Tryd.prog 42 #[.pointer (some ⟨p, 0, none⟩)] w fun e w' => e = .returned (.pointer (some ⟨q, 0, none⟩)) ∧ w' = w := by
  go_enter Tryd.func42, Tryd.ntmps42
  go_wp2
  go_ret
  exact ⟨rfl, rfl⟩
theorem meets_of_ok (a b : List Int) (v1 v2 : Value) (w : World) (hg : Glob w) (h1 : SetV w v1 a) (h2 : SetV w v2 b) (ha : ∀ x ∈ a, 0 ≤ x ∧ x ≤ 1000) (hb : ∀ x ∈ b, 0 ≤ x ∧ x ≤ 1000) (la : a.length ≤ 300) (lb : b.length ≤ 300) :
    Calls Tryd.prog 23 #[v1, v2] w fun e w' => e = .returned (.bool (decide (∃ x ∈ a, x ∈ b))) ∧ Below w.heap.size w w' := by
  obtain ⟨sa, ⟨m1, hm1, rfl, b1⟩ | ⟨q1, rfl, p1⟩⟩ := h1
  · obtain ⟨sb, ⟨m2, hm2, rfl, b2⟩ | ⟨q2, rfl, p2⟩⟩ := h2
    · have he := meet_bits hm1 b1 (b2.to hm2)
      rw [← he]
      have hand := u64_and_nat m1 m2 hm1 hm2
      generalize m1 &&& m2 = m3 at *
      clear he b1 b2 sa sb ha hb la lb hm1 hm2
      go_enter Tryd.func23, Tryd.ntmps23
      go_wp2
      go_ret
      exact ⟨by first | rfl | simp [hand], below2 _ _ _⟩
    · have HZ := Aside0.mk (fun W h0 hB => toSmall_ok (w.heap.size + 1) q2 b W .nilIface h0 (p2.later hB) sb hb lb)
      have HE := Aside0.mk (fun (m : Nat) (hm : m < 18446744073709551616) (hT : BitsTo m 64 b) => (⟨meet_bits hm1 b1 hT, u64_and_nat m1 m hm1 hm⟩ : _ ∧ _))
      generalize (b.any fun x => decide (64 ≤ x)) = r at *
      clear b1 p2 sa sb ha hb la lb hm1
      go_enter Tryd.func23, Tryd.ntmps23
      go_wp2_with fail
      refine (HZ.out _ (by simp [go_sem]) (below2 _ _ _)).mono ?_
      rintro e w3 ⟨⟨m', hm', hT, rfl⟩, hb3⟩
      obtain ⟨he, hand⟩ := HE.out m' hm' hT
      have HE' := Aside0.mk he
      have HB := Aside0.mk (below_then (below2 w _ _) (by simp; omega) hb3)
      have hc0 : w3.cell? ⟨w.heap.size, 0, none⟩ = some (.int .u64 m1) := (hb3.cell (p := ⟨w.heap.size, 0, none⟩) (by simp; omega)).trans (by simp [go_sem])
      clear he hT hm' hb3 HE HZ
      generalize m1 &&& m' = m3 at *
      go_wp2_with fail
      go_ret
      exact ⟨by rw [← HE'.out]; first | rfl | simp [hand], HB.out⟩
  · obtain ⟨sb, ⟨m2, hm2, rfl, b2⟩ | ⟨q2, rfl, p2⟩⟩ := h2
    · have HTL := Aside0.mk (fun W h0 h1 (hB : Below w.heap.size w W) => toLarge_ok (w.heap.size + 1) m2 hm2 W (hg.later hB) h0 h1)
      have HM := Aside0.mk (fun (W : World) (q : Nat) (l : List Int) (hB : Below w.heap.size w W) (hbits : Bits m2 64 l) (hs : l.Pairwise (· < ·)) (hsp : SpAt W q l) => (show Calls Tryd.prog 41 #[.pointer (some ⟨q1, 0, none⟩), .pointer (some ⟨q, 0, none⟩)] W fun e w' => e = .returned (.bool (decide (∃ x ∈ a, x ∈ b))) ∧ w' = W by
        have hlb : l = b := sorted_ext l b hs sb (fun y => by rw [hbits y, b2 y])
        subst hlb
        have h := meets_ok q1 q a l W (p1.later hB) hsp (by omega) (by omega)
        rwa [meet_lists sb] at h))
      generalize decide (∃ x ∈ a, x ∈ b) = r at *
      clear b2 p1 sa sb ha hb la lb hm2 hg
      go_enter Tryd.func23, Tryd.ntmps23
      go_wp2
      have hB0 : Below w.heap.size w ((w.alloc (.cells #[.int .u64 0, .pointer (some ⟨q1, 0, none⟩)] 46)).alloc (.cells #[.int .u64 m2, .pointer none] 46)).drew := below_drew (below2 _ _ _)
      go_region_with (first | (go_at_call 42; go_loud (refine (HTL.out _ (by simp [go_sem]) (by simp [go_sem]) hB0).mono ?_; rintro e w3 ⟨rfl, l3, c1, c2, c3, c4⟩; have HB3 := Aside0.mk (below_then hB0 hB0.size c4); have hc3 : w3.cell? ⟨w.heap.size, 1, none⟩ = some (.pointer (some ⟨q1, 0, none⟩)) := (c4.cell (p := ⟨w.heap.size, 1, none⟩) (by simp [go_sem])).trans (by simp [go_sem]); have HC1 := Aside0.mk c1; have HC2 := Aside0.mk c2; have HC3 : Aside0 (SpAt w3 (w.heap.size + 1 + 1) l3) := ⟨(by simpa using c3)⟩; clear c1 c2 c3 c4)) | (go_at_call 41; refine (HM.out _ (w.heap.size + 1 + 1) _ (by repeat (first | (with_reducible exact HB3.out) | (with_reducible apply below_drew) | (with_reducible apply pw_below_drewN) | (with_reducible apply below_drew1))) HC1.out HC2.out (by first | exact HC3.out | exact HC3.out.later (below_drew (Below.refl _ _)))).mono ?_; rintro e w4 ⟨rfl, hw⟩; subst w4))
      all_goals go_wp2
      all_goals go_ret
      all_goals exact ⟨rfl, by repeat (first | (with_reducible exact HB3.out) | (with_reducible apply below_drew) | (with_reducible apply pw_below_drewN) | (with_reducible apply below_drew1))⟩
    · have HM := Aside0.mk (fun (W : World) (hB : Below w.heap.size w W) => (show Calls Tryd.prog 41 #[.pointer (some ⟨q1, 0, none⟩), .pointer (some ⟨q2, 0, none⟩)] W fun e w' => e = .returned (.bool (decide (∃ x ∈ a, x ∈ b))) ∧ w' = W by
        have h := meets_ok q1 q2 a b W (p1.later hB) (p2.later hB) (by omega) (by omega)
        rwa [meet_lists sb] at h))
      have HTL := Aside0.mk (fun W h1 => toLarge_old (w.heap.size + 1) q2 W h1)
      generalize decide (∃ x ∈ a, x ∈ b) = r at *
      clear p1 p2 sa sb ha hb la lb hg
      have hB0 : Below w.heap.size w ((w.alloc (.cells #[.int .u64 0, .pointer (some ⟨q1, 0, none⟩)] 46)).alloc (.cells #[.int .u64 0, .pointer (some ⟨q2, 0, none⟩)] 46)).drew := below_drew (below2 _ _ _)
      go_enter Tryd.func23, Tryd.ntmps23
      go_wp2
      go_region_with (first | (go_at_call 42; refine (HTL.out _ (by simp [go_sem])).mono ?_; rintro e w3 ⟨rfl, hw⟩; subst w3) | (go_at_call 41; refine (HM.out _ (by repeat (first | (with_reducible exact hB0) | (with_reducible apply below_drew) | (with_reducible apply pw_below_drewN) | (with_reducible apply below_drew1)))).mono ?_; rintro e w4 ⟨rfl, hw⟩; subst w4))
      all_goals go_wp2
      all_goals go_ret
      all_goals exact ⟨rfl, by repeat (first | (with_reducible exact hB0) | (with_reducible apply below_drew) | (with_reducible apply pw_below_drewN) | (with_reducible apply below_drew1))⟩
end Go.Proofs.YtlghbhkpdlkhjaaDoor.PIS
