/-
  Contracts of sparse.Min, Max and of FastIntSet.largeToSmall. Condition: numbers from 0 to 1000, at most 300.
-/
import Derived.Test.YtlghbhkpdlkhjaaDoorISg
namespace Go.Proofs.YtlghbhkpdlkhjaaDoor.PIS
open Go.RowKit Go.Proofs.YtlghbhkpdlkhjaaDoorW.PrintWords Go.Proofs.YtlghbhkpdlkhjaaDoorW.PrintLast Go.Proofs.YtlghbhkpdlkhjaaDoorW.PrintMore
set_option linter.unusedVariables false
set_option linter.unusedSimpArgs false
set_option maxRecDepth 100000
set_option maxHeartbeats 400000

theorem low_spec (x : Int) : ∀ (l : List Int), l.Pairwise (· < ·) → (∀ z ∈ l, z ≤ 1000) → (∀ z ∈ l, x ≤ z → lowB x l ≤ z) ∧ ((lowB x l ∈ l ∧ x ≤ lowB x l) ∨ lowB x l = 9223372036854775807)
  | [], _, _ => ⟨fun z h => by simp at h, .inr rfl⟩
  | z :: t, hs, hb => by
    obtain ⟨h1, h2⟩ := List.pairwise_cons.1 hs
    by_cases hz : z < x
    · have e2 : idx x (z :: t) = idx x t + 1 := by
        show (List.takeWhile _ (z :: t)).length = _
        rw [List.takeWhile_cons, if_pos (by simpa using hz)]
        rfl
      have e : lowB x (z :: t) = lowB x t := by
        unfold lowB
        rw [e2, List.getElem?_cons_succ]
      obtain ⟨i1, i2⟩ := low_spec x t h2 (fun y hy => hb y (List.mem_cons_of_mem _ hy))
      rw [e]
      refine ⟨fun y hy hxy => ?_, ?_⟩
      · rcases List.mem_cons.1 hy with rfl | hy
        · omega
        · exact i1 y hy hxy
      · rcases i2 with ⟨h, h'⟩ | h
        · exact .inl ⟨List.mem_cons_of_mem _ h, h'⟩
        · exact .inr h
    · have e2 : idx x (z :: t) = 0 := by
        show (List.takeWhile _ (z :: t)).length = _
        rw [List.takeWhile_cons, if_neg (by simpa using hz)]
        rfl
      have e : lowB x (z :: t) = z := by
        unfold lowB
        rw [e2]
        rfl
      rw [e]
      refine ⟨fun y hy _ => ?_, .inl ⟨List.mem_cons_self, by omega⟩⟩
      rcases List.mem_cons.1 hy with rfl | hy
      · exact Int.le_refl _
      · have := h1 y hy; omega
def minB (l : List Int) : Int := match l[0]? with
  | some y => y
  | none => 9223372036854775807
def maxB (l : List Int) : Int := match l[l.length - 1]? with
  | some y => y
  | none => -9223372036854775808
theorem min_ok (q : Nat) (l : List Int) (w : World) (h : SpAt w q l) (hl : l.length ≤ 1000) :
    Calls Tryd.prog 73 #[.pointer (some ⟨q, 0, none⟩)] w fun e w' => e = .returned (.int .i64 (minB l)) ∧ w' = w := by
  obtain ⟨A, c, hb, hc, hC⟩ := h
  have h0 : w.cell? ⟨q, 0, none⟩ = some (.slice A l.length c) := by rw [Lib.cell_of_heap hb]; rfl
  cases l with
  | nil =>
    go_enter Tryd.func73, Tryd.ntmps73
    go_wp2
    go_ret
    exact ⟨rfl, rfl⟩
  | cons z t =>
    obtain ⟨ad, e, hx⟩ := Kd.at_int hC 0 (by omega) (by simp)
    subst e
    have hx' : w.cell? (ad.add 0) = some (.int .i64 z) := hx
    rw [show ad.add 0 = ad by unfold Addr.add; simp] at hx'
    have g0 : (((z :: t : List Int).length : Int) == 0) = false := by simp; omega
    have gp : 0 < (z :: t : List Int).length := by simp
    have hr : minB (z :: t) = z := rfl
    rw [hr]
    generalize (z :: t : List Int).length = n at *
    clear hb hC hx
    go_enter Tryd.func73, Tryd.ntmps73
    go_wp2
    go_ret
    exact ⟨rfl, rfl⟩
theorem max_ok (q : Nat) (l : List Int) (w : World) (h : SpAt w q l) (hl : l.length ≤ 1000) :
    Calls Tryd.prog 74 #[.pointer (some ⟨q, 0, none⟩)] w fun e w' => e = .returned (.int .i64 (maxB l)) ∧ Below w.heap.size w w' := by
  obtain ⟨A, c, hb, hc, hC⟩ := h
  have h0 : w.cell? ⟨q, 0, none⟩ = some (.slice A l.length c) := by rw [Lib.cell_of_heap hb]; rfl
  rcases Nat.eq_zero_or_pos l.length with hn | hn
  · obtain rfl := List.length_eq_zero_iff.1 hn
    go_enter Tryd.func74, Tryd.ntmps74
    go_wp2
    go_ret
    exact ⟨rfl, Below.refl _ _⟩
  · obtain ⟨n, hn2⟩ : ∃ n, l.length = n + 1 := ⟨l.length - 1, by omega⟩
    obtain ⟨ad, e, hx⟩ := Kd.at_int hC (n : Int) (by omega) (by omega)
    subst e
    rw [Int.toNat_natCast] at hx
    have hget : l[l.length - 1]? = some (rd l (n : Int)) := by
      unfold rd
      rw [Int.toNat_natCast, List.getD_eq_getElem?_getD, hn2, Nat.add_sub_cancel, List.getElem?_eq_getElem (by omega)]
      rfl
    have hr : maxB l = rd l (n : Int) := by unfold maxB; rw [hget]
    rw [hr]
    generalize rd l (n : Int) = y at *
    rw [hn2] at h0
    have g0 : (((n + 1 : Nat) : Int) == 0) = false := by simp; omega
    have hnb : n ≤ 999 := by omega
    clear hb hC hget hr hn hn2 hl
    go_enter Tryd.func74, Tryd.ntmps74
    go_wp2
    go_region
    all_goals go_wp2
    all_goals go_ret
    all_goals exact ⟨rfl, by repeat (first | (with_reducible exact Below.refl _ _) | (with_reducible apply below_drew) | (with_reducible apply pw_below_drewN) | (with_reducible apply below_drew1))⟩
theorem max_any (l : List Int) (hs : l.Pairwise (· < ·)) : (decide (maxB l ≥ 64)) = l.any fun x => decide (64 ≤ x) := by
  rcases List.eq_nil_or_concat l with rfl | ⟨t, z, rfl⟩
  · rfl
  · have e : maxB (t.concat z) = z := by
      unfold maxB
      rw [List.concat_eq_append]
      simp
    rw [e]
    rw [List.concat_eq_append] at hs ⊢
    rw [List.pairwise_append] at hs
    rw [Bool.eq_iff_iff, decide_eq_true_iff, List.any_eq_true]
    constructor
    · intro h
      exact ⟨z, by simp, by simpa using h⟩
    · rintro ⟨x, hx, h⟩
      simp only [decide_eq_true_eq] at h
      rcases List.mem_append.1 hx with hx | hx
      · have := hs.2.2 x hx z (by simp)
        omega
      · obtain rfl := List.mem_singleton.1 hx
        exact h
theorem min_neg (l : List Int) (h : ∀ x ∈ l, 0 ≤ x) : decide (minB l < 0) = false := by
  cases l with
  | nil => rfl
  | cons z t => exact decide_eq_false (by have := h z List.mem_cons_self; show ¬ z < 0; omega)
end Go.Proofs.YtlghbhkpdlkhjaaDoor.PIS
