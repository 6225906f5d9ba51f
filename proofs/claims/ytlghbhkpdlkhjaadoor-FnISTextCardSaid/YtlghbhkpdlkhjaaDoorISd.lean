/-
  What impl.ISAsk answers, in the form in which the printed text asks for it. Condition: rising numbers from 0 to 1000, at most 200 each; math/bits.deBruijn64tab as laid.
-/
import Derived.Test.YtlghbhkpdlkhjaaDoorISl
import Derived.Deep.RegionHeld3
namespace Go.Proofs.YtlghbhkpdlkhjaaDoor.PIS
open Go.RowKit Go.Proofs.YtlghbhkpdlkhjaaDoorW.PrintWords Go.Proofs.YtlghbhkpdlkhjaaDoorW.PrintLast Go.Proofs.YtlghbhkpdlkhjaaDoorW.PrintMore
set_option linter.unusedVariables false
set_option linter.unusedSimpArgs false
set_option maxRecDepth 100000
set_option maxHeartbeats 1000000

def Rise (l : List Int) : Prop := l.Pairwise (· < ·) ∧ (∀ x ∈ l, 0 ≤ x ∧ x ≤ 1000) ∧ l.length ≤ 200
instance (l : List Int) : Decidable (Rise l) := by unfold Rise; infer_instance
theorem ofL_rise {l : List Int} (h : Rise l) : ofL l = l := sorted_ext _ _ (ofL_spec l).1 h.1 (ofL_spec l).2.1
def impl_ISAsk.f (l0 l1 : List Int) : Option (Bool × Bool × Bool) := if Rise l0 ∧ Rise l1 then some (decide (l0 = l1), decide (∀ x ∈ l0, x ∈ l1), decide (∃ x ∈ l0, x ∈ l1)) else none
theorem setv_agg {w : World} {v : Value} {l : List Int} (h : SetV w v l) : ∃ (m : Nat) (p : Option Addr), v = .agg #[.int .u64 m, .pointer p] := by
  obtain ⟨_, ⟨m, _, rfl, _⟩ | ⟨q, rfl, _⟩⟩ := h
  · exact ⟨m, none, rfl⟩
  · exact ⟨0, some ⟨q, 0, none⟩, rfl⟩
theorem impl_ISAsk.calls (A0 : Option Addr) (c0 : Nat) (l0 : List Int) (A1 : Option Addr) (c1 : Nat) (l1 : List Int) (r1 r2 r3 : Bool) (w : World) (hg : Glob w) (hr0 : Kd.C (Kd.int .i64) w A0 l0.length l0) (hc0 : l0.length ≤ c0) (hr1 : Kd.C (Kd.int .i64) w A1 l1.length l1) (hc1 : l1.length ≤ c1) (h : impl_ISAsk.f l0 l1 = some (r1, r2, r3)) :
    Calls Tryd.prog 8 #[.slice A0 l0.length c0, .slice A1 l1.length c1] w fun e w' => e = .returned (.tuple #[.bool r1, .bool r2, .bool r3]) ∧ Below w.heap.size w w' := by
  unfold impl_ISAsk.f at h
  split at h
  · rename_i hR
    obtain ⟨hR0, hR1⟩ := hR
    simp only [Option.some.injEq, Prod.mk.injEq] at h
    obtain ⟨rfl, rfl, rfl⟩ := h
    have HN0 := Aside0.mk (fun W (hb : Below w.heap.size w W) => new_ok A0 c0 l0 W (hg.later hb) (Kd.C_below hr0 hb) hR0.2.2 hR0.2.1)
    have HN1 := Aside0.mk (fun W (hb : Below w.heap.size w W) => new_ok A1 c1 l1 W (hg.later hb) (Kd.C_below hr1 hb) hR1.2.2 hR1.2.1)
    rw [ofL_rise hR0] at HN0
    rw [ofL_rise hR1] at HN1
    have HE := Aside0.mk (fun v1 v2 W h1 h2 => equals_ok l0 l1 v1 v2 W h1 h2 hR0.2.1 hR1.2.1 (by have := hR0.2.2; omega) (by have := hR1.2.2; omega))
    have HS := Aside0.mk (fun v1 v2 W h1 h2 => subset_of_ok l0 l1 v1 v2 W h1 h2 hR0.2.1 hR1.2.1 (by have := hR0.2.2; omega) (by have := hR1.2.2; omega))
    have HM := Aside0.mk (fun v1 v2 W (hb : Below w.heap.size w W) h1 h2 => meets_of_ok l0 l1 v1 v2 W (hg.later hb) h1 h2 hR0.2.1 hR1.2.1 (by have := hR0.2.2; omega) (by have := hR1.2.2; omega))
    clear hg hr0 hr1 hR0 hR1
    generalize decide (l0 = l1) = r1 at *
    generalize decide (∀ x ∈ l0, x ∈ l1) = r2 at *
    generalize decide (∃ x ∈ l0, x ∈ l1) = r3 at *
    go_enter Tryd.func8, Tryd.ntmps8
    go_wp2_with fail
    refine (HN0.out _ (Below.refl _ _)).mono ?_
    rintro e wa ⟨v1, rfl, hv1, hb1⟩
    go_wp2_with fail
    refine (HN1.out _ hb1).mono ?_
    rintro e wb ⟨v2, rfl, hv2, hb2⟩
    replace hv1 := hv1.later hb2
    have hB := below_then hb1 hb1.size hb2
    obtain ⟨m1, p1, rfl⟩ := setv_agg hv1
    obtain ⟨m2, p2, rfl⟩ := setv_agg hv2
    have HV1 := Aside0.mk hv1
    have HV2 := Aside0.mk hv2
    have HB := Aside0.mk hB
    clear hv1 hv2 hb1 hb2 hB HN0 HN1
    go_wp2
    go_region_held3 (fun W => W.cell? ⟨wb.heap.size, 0, none⟩ = some (.int .u64 m1) ∧ W.cell? ⟨wb.heap.size, 1, none⟩ = some (.pointer p1) ∧ W.cell? ⟨wb.heap.size + 1, 0, none⟩ = some (.int .u64 m2) ∧ W.cell? ⟨wb.heap.size + 1, 1, none⟩ = some (.pointer p2) ∧ Below wb.heap.size wb W)
      (first | (go_split_ands; refine ⟨?_, ?_, ?_, ?_, ?_⟩ <;> assumption) | (go_split_ands; exact ⟨pw_cell_below hb (by assumption), pw_cell_below hb (by assumption), pw_cell_below hb (by assumption), pw_cell_below hb (by assumption), below_step (by assumption) hb⟩) | (refine ⟨?_, ?_, ?_, ?_, ?_⟩; (iterate 4 (focus (simp [go_sem]; done))); repeat (first | (with_reducible exact below2 _ _ _) | (with_reducible exact Below.refl _ _) | (with_reducible apply below_drew))))
      (first | (go_at_call 21; refine (HE.out _ _ _ (HV1.out.later (by go_split_ands; assumption)) (HV2.out.later (by go_split_ands; assumption))).mono ?_; rintro e w3 ⟨rfl, hb⟩) | (go_at_call 22; refine (HS.out _ _ _ (HV1.out.later (by go_split_ands; assumption)) (HV2.out.later (by go_split_ands; assumption))).mono ?_; rintro e w4 ⟨rfl, hb⟩) | (go_at_call 23; refine (HM.out _ _ _ (below_then HB.out HB.out.size (by go_split_ands; assumption)) (HV1.out.later (by go_split_ands; assumption)) (HV2.out.later (by go_split_ands; assumption))).mono ?_; rintro e w5 ⟨rfl, hb⟩))
    all_goals go_wp2
    all_goals
      have hbf := (by assumption : w5.cell? ⟨wb.heap.size, 0, none⟩ = some (.int .u64 m1) ∧ w5.cell? ⟨wb.heap.size, 1, none⟩ = some (.pointer p1) ∧ w5.cell? ⟨wb.heap.size + 1, 0, none⟩ = some (.int .u64 m2) ∧ w5.cell? ⟨wb.heap.size + 1, 1, none⟩ = some (.pointer p2) ∧ Below wb.heap.size wb w5).2.2.2.2
      refine bodyPost_ret (v := .tuple #[.bool r1, .bool r2, .bool r3]) ?_ rfl ?_
      · simp [results, Tryd.results8]
      · exact ⟨rfl, below_then HB.out HB.out.size hbf⟩
  · cases h
end Go.Proofs.YtlghbhkpdlkhjaaDoor.PIS
