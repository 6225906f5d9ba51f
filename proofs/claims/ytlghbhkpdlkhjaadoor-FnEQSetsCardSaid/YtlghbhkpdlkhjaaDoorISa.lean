/-
  Contracts of sparse.at, Has, LowerBound, Min, Max: a rising list in memory. Condition: at most 1000 numbers.
-/
import Derived.Test.YtlghbhkpdlkhjaaDoorPIS0
import Derived.LoopTactic
import Derived.BigCall
import Derived.Lib.Builder
namespace Go.Proofs.YtlghbhkpdlkhjaaDoor.PIS
open Go.RowKit Go.Proofs.YtlghbhkpdlkhjaaDoorW.PrintWords Go.Proofs.YtlghbhkpdlkhjaaDoorW.PrintLast Go.Proofs.YtlghbhkpdlkhjaaDoorW.PrintMore
set_option linter.unusedVariables false
set_option linter.unusedSimpArgs false
set_option maxRecDepth 100000

/-- a sparse set at a block: its list -/
def SpAt (w : World) (q : Nat) (l : List Int) : Prop := ∃ A c, w.heap[q]? = some (.cells #[.slice A l.length c] 102 (0, 0)) ∧ l.length ≤ c ∧ Kd.C (Kd.int .i64) w A l.length l
theorem SpAt.later {w w' : World} {q : Nat} {l : List Int} (h : SpAt w q l) (hb : Below w.heap.size w w') : SpAt w' q l := by
  obtain ⟨A, c, h1, h2, h3⟩ := h
  refine ⟨A, c, (hb.block q ?_).trans h1, h2, Kd.C_below h3 hb⟩
  rcases Nat.lt_or_ge q w.heap.size with h | h
  · exact h
  · rw [Array.getElem?_eq_none h] at h1; cases h1
/-- the first place whose number is not below x -/
def idx (x : Int) (l : List Int) : Nat := (l.takeWhile fun y => decide (y < x)).length
theorem idx_le (x : Int) (l : List Int) : idx x l ≤ l.length := List.takeWhile_sublist _ |>.length_le
theorem idx_lt (x : Int) : ∀ (l : List Int) (k : Nat) (y : Int), l[k]? = some y → k < idx x l → y < x
  | [], k, y, h, _ => by simp at h
  | z :: t, k, y, h, hk => by
    unfold idx at hk
    rw [List.takeWhile_cons] at hk
    by_cases hz : z < x
    · rw [if_pos (by simpa using hz)] at hk
      cases k with
      | zero => simp at h; omega
      | succ k => exact idx_lt x t k y (by simpa using h) (by simpa [idx] using hk)
    · rw [if_neg (by simpa using hz)] at hk
      simp at hk
theorem idx_at (x : Int) : ∀ (l : List Int) (y : Int), l[idx x l]? = some y → ¬ y < x
  | [], y, h => by simp at h
  | z :: t, y, h => by
    unfold idx at h
    rw [List.takeWhile_cons] at h
    by_cases hz : z < x
    · rw [if_pos (by simpa using hz)] at h
      exact idx_at x t y (by simpa [idx] using h)
    · rw [if_neg (by simpa using hz)] at h
      simp at h
      omega
theorem at_ok (q : Nat) (l : List Int) (x : Int) (w : World) (h : SpAt w q l) (hl : l.length ≤ 1000) :
    Calls Tryd.prog 97 #[.pointer (some ⟨q, 0, none⟩), .int .i64 x] w fun e w' => e = .returned (.int .i64 (idx x l : Int)) ∧ w' = w := by
  obtain ⟨A, c, hb, hc, hC⟩ := h
  have h0 : w.cell? ⟨q, 0, none⟩ = some (.slice A l.length c) := by rw [Lib.cell_of_heap hb]; rfl
  have hix := idx_le x l
  have HC := Aside0.mk hC
  clear hb hC
  go_enter Tryd.func97, Tryd.ntmps97
  go_wp2_with fail
  go_loopw [5] (fun t wr => ∃ k : Nat, t = .int .i64 (k : Int) ∧ k ≤ idx x l ∧ wr = w) (fun t _ => idx x l - (intOf t).toNat)
  case atStart => exact ⟨0, rfl, Nat.zero_le _, rfl⟩
  case round =>
    obtain ⟨k, rfl, hk, rfl⟩ := hrel
    rcases Nat.lt_or_ge k l.length with hlt | hge
    · obtain ⟨ad, e, hx⟩ := Kd.at_int HC.out (k : Int) (by omega) (by omega)
      subst e
      rw [Int.toNat_natCast] at hx
      have hget : l[k]? = some (rd l (k : Int)) := by unfold rd; rw [Int.toNat_natCast, List.getD_eq_getElem?_getD, List.getElem?_eq_getElem hlt]; rfl
      generalize rd l (k : Int) = y at *
      rcases Nat.lt_or_ge k (idx x l) with hki | hki
      · have hy := idx_lt x l k y hget hki
        have g1 : decide (y < x) = true := decide_eq_true hy
        go_wp2_with fail
        go_roundw
        case rel => first | exact ⟨k + 1, by go_num, by omega, rfl⟩ | exact ⟨k + 1, by go_num, by omega, trivial⟩ | exact ⟨⟨k + 1, by go_num, by omega⟩, trivial⟩
        case measure => simp [intOf]; omega
      · obtain rfl : k = idx x l := by omega
        have hy := idx_at x l y hget
        have g1 : decide (y < x) = false := decide_eq_false hy
        go_wp2_with fail
        go_ret
        exact ⟨rfl, rfl⟩
    · obtain rfl : k = idx x l := by omega
      have g2 : ¬ idx x l < l.length := by omega
      go_wp2_with fail
      go_ret
      exact ⟨rfl, rfl⟩

def hasB (x : Int) (l : List Int) : Bool := match l[idx x l]? with
  | some y => y == x
  | none => false
def lowB (x : Int) (l : List Int) : Int := match l[idx x l]? with
  | some y => y
  | none => 9223372036854775807
theorem hasB_iff (x : Int) : ∀ (l : List Int), l.Pairwise (· < ·) → (hasB x l = true ↔ x ∈ l)
  | [], _ => by simp [hasB]
  | z :: t, hs => by
    obtain ⟨h1, h2⟩ := List.pairwise_cons.1 hs
    by_cases hz : z < x
    · have e : hasB x (z :: t) = hasB x t := by
        have e2 : idx x (z :: t) = idx x t + 1 := by
          show (List.takeWhile _ (z :: t)).length = _
          rw [List.takeWhile_cons, if_pos (by simpa using hz)]
          rfl
        unfold hasB
        rw [e2, List.getElem?_cons_succ]
      rw [e, hasB_iff x t h2, List.mem_cons]
      constructor
      · exact fun h => .inr h
      · rintro (rfl | h)
        · exact absurd hz (Int.lt_irrefl _)
        · exact h
    · have e2 : idx x (z :: t) = 0 := by
        show (List.takeWhile _ (z :: t)).length = _
        rw [List.takeWhile_cons, if_neg (by simpa using hz)]
        rfl
      have e : hasB x (z :: t) = (z == x) := by
        unfold hasB
        rw [e2]
        rfl
      rw [e, List.mem_cons, beq_iff_eq]
      constructor
      · exact fun h => .inl h.symm
      · rintro (rfl | h)
        · rfl
        · have := h1 x h
          omega
theorem has_ok (q : Nat) (l : List Int) (x : Int) (w : World) (h : SpAt w q l) (hl : l.length ≤ 1000) :
    Calls Tryd.prog 75 #[.pointer (some ⟨q, 0, none⟩), .int .i64 x] w fun e w' => e = .returned (.bool (hasB x l)) ∧ w' = w := by
  have HA := Aside0.mk (at_ok q l x w h hl)
  obtain ⟨A, c, hb, hc, hC⟩ := h
  have h0 : w.cell? ⟨q, 0, none⟩ = some (.slice A l.length c) := by rw [Lib.cell_of_heap hb]; rfl
  have hix := idx_le x l
  rcases Nat.lt_or_ge (idx x l) l.length with hlt | hge
  · obtain ⟨ad, e, hx⟩ := Kd.at_int hC (idx x l : Int) (by omega) (by omega)
    subst e
    rw [Int.toNat_natCast] at hx
    have hget : l[idx x l]? = some (rd l (idx x l : Int)) := by unfold rd; rw [Int.toNat_natCast, List.getD_eq_getElem?_getD, List.getElem?_eq_getElem hlt]; rfl
    have hr : hasB x l = (rd l (idx x l : Int) == x) := by unfold hasB; rw [hget]
    rw [hr]
    generalize rd l (idx x l : Int) = y at *
    generalize idx x l = k at *
    clear hb hC hget hr
    cases hq : (y == x)
    all_goals
      go_enter Tryd.func75, Tryd.ntmps75
      go_wp2_with (go_at_call 97; refine HA.out.mono ?_; rintro e w2 ⟨rfl, rfl⟩)
      go_ret
      exact ⟨by first | rfl | simp [hq], rfl⟩
  · have hr : hasB x l = false := by unfold hasB; rw [List.getElem?_eq_none hge]
    rw [hr]
    have g : ¬ idx x l < l.length := by omega
    generalize idx x l = k at *
    clear hb hC hr
    go_enter Tryd.func75, Tryd.ntmps75
    go_wp2_with (go_at_call 97; refine HA.out.mono ?_; rintro e w2 ⟨rfl, rfl⟩)
    go_ret
    exact ⟨rfl, rfl⟩
theorem low_ok (q : Nat) (l : List Int) (x : Int) (w : World) (h : SpAt w q l) (hl : l.length ≤ 1000) :
    Calls Tryd.prog 72 #[.pointer (some ⟨q, 0, none⟩), .int .i64 x] w fun e w' => e = .returned (.int .i64 (lowB x l)) ∧ w' = w := by
  have HA := Aside0.mk (at_ok q l x w h hl)
  obtain ⟨A, c, hb, hc, hC⟩ := h
  have h0 : w.cell? ⟨q, 0, none⟩ = some (.slice A l.length c) := by rw [Lib.cell_of_heap hb]; rfl
  have hix := idx_le x l
  rcases Nat.lt_or_ge (idx x l) l.length with hlt | hge
  · obtain ⟨ad, e, hx⟩ := Kd.at_int hC (idx x l : Int) (by omega) (by omega)
    subst e
    rw [Int.toNat_natCast] at hx
    have hget : l[idx x l]? = some (rd l (idx x l : Int)) := by unfold rd; rw [Int.toNat_natCast, List.getD_eq_getElem?_getD, List.getElem?_eq_getElem hlt]; rfl
    have hr : lowB x l = rd l (idx x l : Int) := by unfold lowB; rw [hget]
    rw [hr]
    generalize rd l (idx x l : Int) = y at *
    generalize idx x l = k at *
    clear hb hC hget hr
    go_enter Tryd.func72, Tryd.ntmps72
    go_wp2_with (go_at_call 97; refine HA.out.mono ?_; rintro e w2 ⟨rfl, rfl⟩)
    go_ret
    exact ⟨rfl, rfl⟩
  · have hr : lowB x l = 9223372036854775807 := by unfold lowB; rw [List.getElem?_eq_none hge]
    rw [hr]
    have g : ¬ idx x l < l.length := by omega
    generalize idx x l = k at *
    clear hb hC hr
    go_enter Tryd.func72, Tryd.ntmps72
    go_wp2_with (go_at_call 97; refine HA.out.mono ?_; rintro e w2 ⟨rfl, rfl⟩)
    go_ret
    exact ⟨rfl, rfl⟩
theorem subset_ok (q1 q2 : Nat) (a b : List Int) (w : World) (h1 : SpAt w q1 a) (h2 : SpAt w q2 b) (ha : a.length ≤ 1000) (hb : b.length ≤ 1000) :
    Calls Tryd.prog 40 #[.pointer (some ⟨q1, 0, none⟩), .pointer (some ⟨q2, 0, none⟩)] w fun e w' => e = .returned (.bool (a.all fun x => hasB x b)) ∧ w' = w := by
  have HA := Aside0.mk (fun x => has_ok q2 b x w h2 hb)
  obtain ⟨A, c, hbk, hc, hC⟩ := h1
  have h0 : w.cell? ⟨q1, 0, none⟩ = some (.slice A a.length c) := by rw [Lib.cell_of_heap hbk]; rfl
  have HC := Aside0.mk hC
  clear hbk hC h2
  go_enter Tryd.func40, Tryd.ntmps40
  go_wp2_with fail
  go_loopw [12] (fun t wr => ∃ k : Nat, t = .int .i64 (k : Int) ∧ k ≤ a.length ∧ Aside0 ((a.take k).all (fun x => hasB x b) = true) ∧ wr = w) (fun t _ => a.length - (intOf t).toNat)
  case atStart => exact ⟨0, rfl, Nat.zero_le _, ⟨rfl⟩, rfl⟩
  case round =>
    obtain ⟨k, rfl, hk, HT, rfl⟩ := hrel
    rcases Nat.lt_or_ge k a.length with hlt | hge
    · obtain ⟨ad, e, hx⟩ := Kd.at_int HC.out (k : Int) (by omega) (by omega)
      subst e
      rw [Int.toNat_natCast] at hx
      have hget : rd a (k : Int) = a[k] := by unfold rd; rw [Int.toNat_natCast, List.getD_eq_getElem?_getD, List.getElem?_eq_getElem hlt]; rfl
      have htk : a.take (k + 1) = a.take k ++ [rd a (k : Int)] := by rw [hget]; exact List.take_succ_eq_append_getElem hlt
      have HTK := Aside0.mk htk
      have hmem : rd a (k : Int) ∈ a := by rw [hget]; exact List.getElem_mem hlt
      generalize rd a (k : Int) = y at *
      have HY := Aside0.mk (HA.out y)
      clear hget htk
      cases hq : hasB y b
      · have hr : (a.all fun x => hasB x b) = false := List.all_eq_false.2 ⟨y, hmem, by simp [hq]⟩
        rw [hq] at HY
        go_wp2_with fail
        refine HY.out.mono ?_
        rintro e w2 ⟨rfl, rfl⟩
        go_wp2_with fail
        go_ret
        exact ⟨by first | rfl | (rw [hr]; rfl), rfl⟩
      · have HT2 : Aside0 ((a.take (k + 1)).all (fun x => hasB x b) = true) := ⟨by rw [HTK.out, List.all_append, HT.out]; simp [hq]⟩
        rw [hq] at HY
        clear HT HTK hmem
        go_wp2_with fail
        refine HY.out.mono ?_
        rintro e w2 ⟨rfl, rfl⟩
        go_wp2_with fail
        go_roundw
        case rel => first | exact ⟨k + 1, by go_num, by omega, HT2, rfl⟩ | exact ⟨k + 1, by go_num, by omega, HT2, trivial⟩ | exact ⟨⟨k + 1, by go_num, by omega, HT2⟩, trivial⟩
        case measure => simp [intOf]; omega
    · obtain rfl : k = a.length := by omega
      have hr : (a.all fun x => hasB x b) = true := by have h := HT.out; rwa [List.take_length] at h
      go_wp2_with fail
      go_ret
      exact ⟨by first | rfl | (rw [hr]; rfl), rfl⟩
theorem meets_ok (q1 q2 : Nat) (a b : List Int) (w : World) (h1 : SpAt w q1 a) (h2 : SpAt w q2 b) (ha : a.length ≤ 1000) (hb : b.length ≤ 1000) :
    Calls Tryd.prog 41 #[.pointer (some ⟨q1, 0, none⟩), .pointer (some ⟨q2, 0, none⟩)] w fun e w' => e = .returned (.bool (a.any fun x => hasB x b)) ∧ w' = w := by
  have HA := Aside0.mk (fun x => has_ok q2 b x w h2 hb)
  obtain ⟨A, c, hbk, hc, hC⟩ := h1
  have h0 : w.cell? ⟨q1, 0, none⟩ = some (.slice A a.length c) := by rw [Lib.cell_of_heap hbk]; rfl
  have HC := Aside0.mk hC
  clear hbk hC h2
  go_enter Tryd.func41, Tryd.ntmps41
  go_wp2_with fail
  go_loopw [12] (fun t wr => ∃ k : Nat, t = .int .i64 (k : Int) ∧ k ≤ a.length ∧ Aside0 ((a.take k).any (fun x => hasB x b) = false) ∧ wr = w) (fun t _ => a.length - (intOf t).toNat)
  case atStart => exact ⟨0, rfl, Nat.zero_le _, ⟨rfl⟩, rfl⟩
  case round =>
    obtain ⟨k, rfl, hk, HT, rfl⟩ := hrel
    rcases Nat.lt_or_ge k a.length with hlt | hge
    · obtain ⟨ad, e, hx⟩ := Kd.at_int HC.out (k : Int) (by omega) (by omega)
      subst e
      rw [Int.toNat_natCast] at hx
      have hget : rd a (k : Int) = a[k] := by unfold rd; rw [Int.toNat_natCast, List.getD_eq_getElem?_getD, List.getElem?_eq_getElem hlt]; rfl
      have htk : a.take (k + 1) = a.take k ++ [rd a (k : Int)] := by rw [hget]; exact List.take_succ_eq_append_getElem hlt
      have HTK := Aside0.mk htk
      have hmem : rd a (k : Int) ∈ a := by rw [hget]; exact List.getElem_mem hlt
      generalize rd a (k : Int) = y at *
      have HY := Aside0.mk (HA.out y)
      clear hget htk
      cases hq : hasB y b
      · have HT2 : Aside0 ((a.take (k + 1)).any (fun x => hasB x b) = false) := ⟨by rw [HTK.out, List.any_append, HT.out]; simp [hq]⟩
        rw [hq] at HY
        clear HT HTK hmem
        go_wp2_with fail
        refine HY.out.mono ?_
        rintro e w2 ⟨rfl, rfl⟩
        go_wp2_with fail
        go_roundw
        case rel => first | exact ⟨k + 1, by go_num, by omega, HT2, rfl⟩ | exact ⟨k + 1, by go_num, by omega, HT2, trivial⟩ | exact ⟨⟨k + 1, by go_num, by omega, HT2⟩, trivial⟩
        case measure => simp [intOf]; omega
      · have hr : (a.any fun x => hasB x b) = true := List.any_eq_true.2 ⟨y, hmem, hq⟩
        rw [hq] at HY
        go_wp2_with fail
        refine HY.out.mono ?_
        rintro e w2 ⟨rfl, rfl⟩
        go_wp2_with fail
        go_ret
        exact ⟨by first | rfl | (rw [hr]; rfl), rfl⟩
    · obtain rfl : k = a.length := by omega
      have hr : (a.any fun x => hasB x b) = false := by have h := HT.out; rwa [List.take_length] at h
      go_wp2_with fail
      go_ret
      exact ⟨by first | rfl | (rw [hr]; rfl), rfl⟩
end Go.Proofs.YtlghbhkpdlkhjaaDoor.PIS
