/-
  What impl.RREquals, RRSubset, RRSuperset, RROverlaps, RREmpty and RRConnected answer, in the form in which the printed text asks for it. Condition: at most 1000 columns, as many in both, at least one.
-/
import Derived.Test.YtlcoodjkolponaaDoorRRd
namespace Go.Proofs.YtlcoodjkolponaaDoor.PRR
open Go.RowKit Go.Proofs.YtlcoodjkolponaaDoorW.PrintWords Go.Proofs.YtlcoodjkolponaaDoorW.PrintLast Go.Proofs.YtlcoodjkolponaaDoorW.PrintMore
open Go.Proofs.YtlcoodjkolponaaDoor.PRG (C cmpC typV keep_frozen ends_caught)
set_option linter.unusedVariables false
set_option linter.unusedSimpArgs false
set_option maxRecDepth 100000
set_option maxHeartbeats 4000000

def impl_RROverlaps.f (l0 l1 : List S44) : Option (Bool × Bool) := if l0.length ≤ 1000 ∧ l0.length = l1.length then some (all2 ovE (l0.map toC) (l1.map toC), true) else none
theorem impl_RROverlaps.calls (A0 : Option Addr) (c0 : Nat) (l0 : List S44) (A1 : Option Addr) (c1 : Nat) (l1 : List S44) (r1 : Bool) (r2 : Bool) (w : World) (hr0 : Kd.C k44 w A0 l0.length l0) (hc0 : l0.length ≤ c0) (hr1 : Kd.C k44 w A1 l1.length l1) (hc1 : l1.length ≤ c1) (h : impl_RROverlaps.f l0 l1 = some (r1, r2)) :
    Calls Tryd.prog 39 #[.slice A0 l0.length c0, .slice A1 l1.length c1] w fun e w' => e = .returned (.tuple #[.bool r1, .bool r2]) ∧ Below w.heap.size w w' := by
  unfold impl_RROverlaps.f at h
  split at h
  · rename_i hc
    obtain ⟨hl, hlen⟩ := hc
    simp only [Option.some.injEq, Prod.mk.injEq] at h
    obtain ⟨hres, rfl⟩ := h
    have la : (l0.map toC).length = l0.length := List.length_map ..
    have lb : (l1.map toC).length = l0.length := by rw [List.length_map, hlen]
    have EA := Aside0.mk (fun W (hb : Below w.heap.size w W) => exprs_ok A0 c0 l0 hl W (Kd.C_below hr0 hb))
    have EB := Aside0.mk (fun W (hb : Below w.heap.size w W) => exprs_ok A1 c1 l1 (by omega) W (Kd.C_below hr1 hb))
    rw [← hlen] at EB
    have M := Aside0.mk (fun A2 c2 A3 c3 W h2 h3 => rrOver_ok l0.length A2 c2 (l0.map toC) A3 c3 (l1.map toC) hl la lb W h2 h3)
    rw [show all2 ovE (l0.map toC) (l1.map toC) = r1 from hres] at M
    have La := Aside0.mk la
    have Lb := Aside0.mk lb
    rw [← hlen]
    generalize l0.map toC = a at *
    generalize l1.map toC = b at *
    generalize l0.length = n at *
    clear hr0 hr1 hres la lb hc0 hc1 hlen
    cases r1
    all_goals
      go_enter_defers Tryd.func39, Tryd.ntmps39
      go_wp2_with fail
      refine (EA.out _ (by repeat (first | (with_reducible exact Below.refl _ _) | (with_reducible apply below_alloc)))).mono ?_
      rintro e wa ⟨v1, rfl, hv1, hb1⟩
      have na : wa.cell? ⟨w.heap.size, 0, none⟩ = some (.bool false) := pw_cell_below hb1 (by simp [go_sem])
      have fa : wa.frozen? ⟨w.heap.size, 0, none⟩ = false := keep_frozen (v := .bool false) hb1 (by simp [go_sem]) (by simp [go_sem])
      have HB1 : Aside0 (Below w.heap.size w wa) := ⟨below_step (by repeat (first | (with_reducible exact Below.refl _ _) | (with_reducible apply below_alloc))) hb1⟩
      obtain ⟨A2, c2, rfl⟩ := Kd.R_slice hv1
      rw [La.out] at hv1
      have HV1 := Aside0.mk hv1
      clear hv1 hb1
      rw [La.out]
      go_wp2_with fail
      refine (EB.out _ HB1.out).mono ?_
      rintro e wb ⟨v2, rfl, hv2, hb2⟩
      have nb : wb.cell? ⟨w.heap.size, 0, none⟩ = some (.bool false) := pw_cell_below hb2 na
      have fb : wb.frozen? ⟨w.heap.size, 0, none⟩ = false := keep_frozen (v := .bool false) hb2 na fa
      have HB2 := Aside0.mk (below_step HB1.out hb2)
      obtain ⟨A3, c3, rfl⟩ := Kd.R_slice hv2
      rw [Lb.out] at hv2
      have HC1 := Aside0.mk (Kd.C_below (show Kd.C kE wa A2 n a by have h := (Kd.R_reads' HV1.out).2.2; rwa [La.out] at h) hb2)
      have HC2 := Aside0.mk (show Kd.C kE wb A3 n b by have h := (Kd.R_reads' hv2).2.2; rwa [Lb.out] at h)
      clear hv2 hb2 na fa HB1 HV1
      rw [Lb.out]
      go_wp2_with fail
      refine (M.out _ _ _ _ _ HC1.out HC2.out).mono ?_
      rintro e wc ⟨rfl, hb3⟩
      have nc : wc.cell? ⟨w.heap.size, 0, none⟩ = some (.bool false) := pw_cell_below hb3 nb
      have fc : wc.frozen? ⟨w.heap.size, 0, none⟩ = false := keep_frozen (v := .bool false) hb3 nb fb
      have HB3 := Aside0.mk (below_step HB2.out hb3)
      clear nb fb hb3 HB2 HC1 HC2
      go_wp2
      go_region
      all_goals go_wp2
      all_goals first
        | exact ends_caught (v := .tuple #[.bool false, .bool true]) (by simp [results, Tryd.results39, go_sem, nc]) ⟨rfl, below_drew (HB3.out.setCell (by simp) _)⟩
        | exact ends_caught (v := .tuple #[.bool true, .bool true]) (by simp [results, Tryd.results39, go_sem, nc]) ⟨rfl, below_drew (HB3.out.setCell (by simp) _)⟩
  · cases h
def impl_RRConnected.f (l0 l1 : List S44) : Option (Bool × Bool) := if l0.length ≤ 1000 ∧ l0.length = l1.length then some (all2 ovE (l0.map toC) (l1.map toC), true) else none
theorem impl_RRConnected.calls (A0 : Option Addr) (c0 : Nat) (l0 : List S44) (A1 : Option Addr) (c1 : Nat) (l1 : List S44) (r1 : Bool) (r2 : Bool) (w : World) (hr0 : Kd.C k44 w A0 l0.length l0) (hc0 : l0.length ≤ c0) (hr1 : Kd.C k44 w A1 l1.length l1) (hc1 : l1.length ≤ c1) (h : impl_RRConnected.f l0 l1 = some (r1, r2)) :
    Calls Tryd.prog 41 #[.slice A0 l0.length c0, .slice A1 l1.length c1] w fun e w' => e = .returned (.tuple #[.bool r1, .bool r2]) ∧ Below w.heap.size w w' := by
  unfold impl_RRConnected.f at h
  split at h
  · rename_i hc
    obtain ⟨hl, hlen⟩ := hc
    simp only [Option.some.injEq, Prod.mk.injEq] at h
    obtain ⟨hres, rfl⟩ := h
    have la : (l0.map toC).length = l0.length := List.length_map ..
    have lb : (l1.map toC).length = l0.length := by rw [List.length_map, hlen]
    have EA := Aside0.mk (fun W (hb : Below w.heap.size w W) => exprs_ok A0 c0 l0 hl W (Kd.C_below hr0 hb))
    have EB := Aside0.mk (fun W (hb : Below w.heap.size w W) => exprs_ok A1 c1 l1 (by omega) W (Kd.C_below hr1 hb))
    rw [← hlen] at EB
    have M := Aside0.mk (fun A2 c2 A3 c3 W h2 h3 => rrTouch_ok l0.length A2 c2 (l0.map toC) A3 c3 (l1.map toC) hl la lb W h2 h3)
    rw [show all2 ovE (l0.map toC) (l1.map toC) = r1 from hres] at M
    have La := Aside0.mk la
    have Lb := Aside0.mk lb
    rw [← hlen]
    generalize l0.map toC = a at *
    generalize l1.map toC = b at *
    generalize l0.length = n at *
    clear hr0 hr1 hres la lb hc0 hc1 hlen
    cases r1
    all_goals
      go_enter_defers Tryd.func41, Tryd.ntmps41
      go_wp2_with fail
      refine (EA.out _ (by repeat (first | (with_reducible exact Below.refl _ _) | (with_reducible apply below_alloc)))).mono ?_
      rintro e wa ⟨v1, rfl, hv1, hb1⟩
      have na : wa.cell? ⟨w.heap.size, 0, none⟩ = some (.bool false) := pw_cell_below hb1 (by simp [go_sem])
      have fa : wa.frozen? ⟨w.heap.size, 0, none⟩ = false := keep_frozen (v := .bool false) hb1 (by simp [go_sem]) (by simp [go_sem])
      have HB1 : Aside0 (Below w.heap.size w wa) := ⟨below_step (by repeat (first | (with_reducible exact Below.refl _ _) | (with_reducible apply below_alloc))) hb1⟩
      obtain ⟨A2, c2, rfl⟩ := Kd.R_slice hv1
      rw [La.out] at hv1
      have HV1 := Aside0.mk hv1
      clear hv1 hb1
      rw [La.out]
      go_wp2_with fail
      refine (EB.out _ HB1.out).mono ?_
      rintro e wb ⟨v2, rfl, hv2, hb2⟩
      have nb : wb.cell? ⟨w.heap.size, 0, none⟩ = some (.bool false) := pw_cell_below hb2 na
      have fb : wb.frozen? ⟨w.heap.size, 0, none⟩ = false := keep_frozen (v := .bool false) hb2 na fa
      have HB2 := Aside0.mk (below_step HB1.out hb2)
      obtain ⟨A3, c3, rfl⟩ := Kd.R_slice hv2
      rw [Lb.out] at hv2
      have HC1 := Aside0.mk (Kd.C_below (show Kd.C kE wa A2 n a by have h := (Kd.R_reads' HV1.out).2.2; rwa [La.out] at h) hb2)
      have HC2 := Aside0.mk (show Kd.C kE wb A3 n b by have h := (Kd.R_reads' hv2).2.2; rwa [Lb.out] at h)
      clear hv2 hb2 na fa HB1 HV1
      rw [Lb.out]
      go_wp2_with fail
      refine (M.out _ _ _ _ _ HC1.out HC2.out).mono ?_
      rintro e wc ⟨rfl, hb3⟩
      have nc : wc.cell? ⟨w.heap.size, 0, none⟩ = some (.bool false) := pw_cell_below hb3 nb
      have fc : wc.frozen? ⟨w.heap.size, 0, none⟩ = false := keep_frozen (v := .bool false) hb3 nb fb
      have HB3 := Aside0.mk (below_step HB2.out hb3)
      clear nb fb hb3 HB2 HC1 HC2
      go_wp2
      go_region
      all_goals go_wp2
      all_goals first
        | exact ends_caught (v := .tuple #[.bool false, .bool true]) (by simp [results, Tryd.results41, go_sem, nc]) ⟨rfl, below_drew (HB3.out.setCell (by simp) _)⟩
        | exact ends_caught (v := .tuple #[.bool true, .bool true]) (by simp [results, Tryd.results41, go_sem, nc]) ⟨rfl, below_drew (HB3.out.setCell (by simp) _)⟩
  · cases h
end Go.Proofs.YtlcoodjkolponaaDoor.PRR
