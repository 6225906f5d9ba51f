/-
  Contracts of math/bits.TrailingZeros64 and FastIntSet.Next at a small set; what Insert leaves. Condition: math/bits.deBruijn64tab as laid.
-/
import Derived.Test.YtlghbhkpdlkhjaaDoorISb
import Derived.Laws.BitsAllLaws
import Derived.Shelf.Spec.TrailingZeros
namespace Go.Proofs.YtlghbhkpdlkhjaaDoor.PIS
open Go.RowKit Go.Proofs.YtlghbhkpdlkhjaaDoorW.PrintWords Go.Proofs.YtlghbhkpdlkhjaaDoorW.PrintLast Go.Proofs.YtlghbhkpdlkhjaaDoorW.PrintMore
set_option linter.unusedVariables false
set_option linter.unusedSimpArgs false
set_option maxRecDepth 100000
set_option maxHeartbeats 400000

def Glob (w : World) : Prop := ∀ j, j < Lib.deBruijn64tab.length → w.cell? ⟨0, j, none⟩ = some (.int .u8 (Lib.deBruijn64tab.getD j 0))
theorem Glob.later {w w' : World} (h : Glob w) (hb : Below w.heap.size w w') : Glob w' := fun i hi => (hb.cell (World.block_lt_of_cell? w _ (h i hi))).trans (h i hi)
theorem tz_core (x k ix : Nat) (w : World) (hx0 : ((x : Int) == 0) = false)
    (key : IntKind.u64.wrap (bits BinOp.and IntKind.u64 (x : Int) (IntKind.u64.wrap (-(x : Int))) * 285870213051353865) / 288230376151711744 = (ix : Int))
    (hi : ix < 64) (hk : k < 64) (hcell : w.cell? ⟨0, ix, none⟩ = some (.int .u8 k)) :
    Calls Tryd.prog 86 #[.int .u64 x] w fun e w' => e = .returned (.int .i64 k) ∧ w' = w := by
  go_enter Tryd.func86, Tryd.ntmps86
  go_wp2_with (simp only [key])
  go_ret
  exact ⟨rfl, rfl⟩
theorem tz_zero (w : World) : Calls Tryd.prog 86 #[.int .u64 0] w fun e w' => e = .returned (.int .i64 64) ∧ w' = w := by
  go_enter Tryd.func86, Tryd.ntmps86
  go_wp2
  go_ret
  exact ⟨rfl, rfl⟩
theorem tz_ok (x : Nat) (hx : x < 18446744073709551616) (w : World) (hg : Glob w) : Calls Tryd.prog 86 #[.int .u64 x] w fun e w' => e = .returned (.int .i64 (Lib.ctz 64 x)) ∧ w' = w := by
  by_cases hx0 : x = 0
  · subst hx0
    exact tz_zero w
  · obtain ⟨hlow, hk⟩ := Lib.lowest_bit 64 x hx0 hx
    obtain ⟨hi, htab⟩ := Lib.deBruijn64_at _ hk
    have hcell := hg _ hi
    rw [htab] at hcell
    exact tz_core x _ _ w (by simp; omega) (tz64_key x _ hx hx0 hlow) hi hk hcell
/-- what Next answers: the first one from k on, or none -/
def NextP (m k : Nat) : Option Nat → Prop
  | some i => k ≤ i ∧ i < 64 ∧ m.testBit i = true ∧ ∀ j, k ≤ j → j < i → m.testBit j = false
  | none => ∀ j, k ≤ j → m.testBit j = false
def nextV : Option Nat → Value
  | some i => .tuple #[.int .i64 (i : Int), .bool true]
  | none => .tuple #[.int .i64 9223372036854775807, .bool false]
theorem testBit_ge (m : Nat) (hm : m < 18446744073709551616) (j : Nat) (h : 64 ≤ j) : m.testBit j = false :=
  Nat.testBit_lt_two_pow (Nat.lt_of_lt_of_le hm (Nat.pow_le_pow_right (by decide) h : 2 ^ 64 ≤ 2 ^ j))
theorem low_bits (c z j : Nat) : (2 ^ c * (2 * z + 1)).testBit c = true ∧ (j < c → (2 ^ c * (2 * z + 1)).testBit j = false) := by
  constructor
  · rw [Nat.mul_comm, Nat.testBit_mul_two_pow]
    simp
  · intro h
    rw [Nat.mul_comm, Nat.testBit_mul_two_pow]
    simp
    omega
theorem next_p (m k : Nat) (hm : m < 18446744073709551616) : NextP m k (if m / 2 ^ k = 0 then none else some (k + Lib.ctz 64 (m / 2 ^ k))) := by
  have hsh : ∀ j, (m / 2 ^ k).testBit j = m.testBit (k + j) := fun j => by rw [Nat.testBit_div_two_pow]; rw [Nat.add_comm]
  by_cases h0 : m / 2 ^ k = 0
  · rw [if_pos h0]
    intro j hj
    have h := hsh (j - k)
    rw [h0, show k + (j - k) = j by omega] at h
    rw [← h]
    simp
  · rw [if_neg h0]
    have hlt : m / 2 ^ k < 18446744073709551616 := Nat.lt_of_le_of_lt (Nat.div_le_self _ _) hm
    obtain ⟨z, hz, hc⟩ := Lib.ctzFrom_spec 64 (m / 2 ^ k) (Nat.pos_of_ne_zero h0) hlt
    have e : Lib.ctz 64 (m / 2 ^ k) = Lib.ctzFrom 64 (m / 2 ^ k) := by simp [Lib.ctz, h0]
    rw [e]
    generalize hcd : Lib.ctzFrom 64 (m / 2 ^ k) = c at *
    have ht : m.testBit (k + c) = true := by
      rw [← hsh, hz]
      exact (low_bits c z 0).1
    refine ⟨by omega, ?_, ht, ?_⟩
    · rcases Nat.lt_or_ge (k + c) 64 with h | h
      · exact h
      · rw [testBit_ge m hm _ h] at ht; cases ht
    · intro j h1 h2
      have h := hsh (j - k)
      rw [show k + (j - k) = j by omega] at h
      rw [← h, hz]
      exact (low_bits c z (j - k)).2 (by omega)
theorem next_ok (m k : Nat) (hm : m < 18446744073709551616) (hk : k ≤ 64) (w : World) (hg : Glob w) :
    Calls Tryd.prog 76 #[.agg #[.int .u64 m, .pointer none], .int .i64 (k : Int)] w fun e w' => ∃ r, NextP m k r ∧ e = .returned (nextV r) ∧ Below w.heap.size w w' := by
  rcases Nat.lt_or_ge k 64 with hlt | hge
  · have hp := next_p m k hm
    have hd : (m : Int) / 2 ^ k = ((m / 2 ^ k : Nat) : Int) := by push_cast; rfl
    have hlt2 : m / 2 ^ k < 18446744073709551616 := Nat.lt_of_le_of_lt (Nat.div_le_self _ _) hm
    have HZ := Aside0.mk (fun W hW => tz_ok (m / 2 ^ k) hlt2 W hW)
    have hc64 : m / 2 ^ k ≠ 0 → Lib.ctz 64 (m / 2 ^ k) < 64 := fun h => (Lib.lowest_bit 64 _ h hlt2).2
    have hz64 : m / 2 ^ k = 0 → Lib.ctz 64 (m / 2 ^ k) = 64 := fun h => by rw [h]; rfl
    generalize m / 2 ^ k = x at *
    generalize hcz : Lib.ctz 64 x = c at *
    have HP := Aside0.mk hp
    have HGa := Aside0.mk (hg.later (below_alloc (Below.refl _ _) (.cells #[.int .u64 m, .pointer none] 46)))
    clear hp hlt2 hm hcz
    by_cases hx0 : x = 0
    · have hc := hz64 hx0
      subst hc
      rw [if_pos hx0] at HP
      clear hc64 hz64
      have HZ0 := Aside0.mk (fun W => tz_zero W)
      subst hx0
      go_enter Tryd.func76, Tryd.ntmps76
      go_wp2_with (first | (go_at_call 86; refine (HZ0.out _).mono ?_; rintro e w2 ⟨rfl, hw⟩; subst w2))
      go_ret2
      exact ⟨none, HP.out, rfl, below_alloc (Below.refl _ _) _⟩
    · have hc := hc64 hx0
      rw [if_neg hx0] at HP
      clear hc64 hz64
      go_enter Tryd.func76, Tryd.ntmps76
      go_wp2_with (first | (go_at_call 86; refine (HZ.out _ HGa.out).mono ?_; rintro e w2 ⟨rfl, hw⟩; subst w2))
      go_ret2
      exact ⟨some (k + c), HP.out, by simp [nextV], below_alloc (Below.refl _ _) _⟩
  · obtain rfl : k = 64 := by omega
    go_enter Tryd.func76, Tryd.ntmps76
    go_wp2
    go_ret2
    exact ⟨none, fun j hj => testBit_ge m hm j hj, rfl, below_alloc (Below.refl _ _) _⟩

/-- with x, once -/
def put (x : Int) (l : List Int) : List Int := if hasB x l = true then l else ins x l
theorem ins_spec (x : Int) : ∀ (l : List Int), l.Pairwise (· < ·) → hasB x l = false → (ins x l).Pairwise (· < ·) ∧ ∀ y, y ∈ ins x l ↔ y = x ∨ y ∈ l
  | [], _, _ => by simp [ins]
  | z :: t, hs, hh => by
    obtain ⟨h1, h2⟩ := List.pairwise_cons.1 hs
    by_cases hz : z < x
    · have e2 : idx x (z :: t) = idx x t + 1 := by
        show (List.takeWhile _ (z :: t)).length = _
        rw [List.takeWhile_cons, if_pos (by simpa using hz)]
        rfl
      have e : hasB x (z :: t) = hasB x t := by
        unfold hasB
        rw [e2, List.getElem?_cons_succ]
      have ei : ins x (z :: t) = z :: ins x t := by
        unfold ins
        rw [e2, List.take_succ_cons, List.drop_succ_cons]
        rfl
      obtain ⟨i1, i2⟩ := ins_spec x t h2 (by rw [← e]; exact hh)
      rw [ei]
      refine ⟨List.pairwise_cons.2 ⟨fun y hy => ?_, i1⟩, fun y => ?_⟩
      · rcases (i2 y).1 hy with rfl | hy
        · exact hz
        · exact h1 y hy
      · rw [List.mem_cons, i2, List.mem_cons]
        constructor
        · rintro (h | h | h)
          · exact .inr (.inl h)
          · exact .inl h
          · exact .inr (.inr h)
        · rintro (h | h | h)
          · exact .inr (.inl h)
          · exact .inl h
          · exact .inr (.inr h)
    · have e2 : idx x (z :: t) = 0 := by
        show (List.takeWhile _ (z :: t)).length = _
        rw [List.takeWhile_cons, if_neg (by simpa using hz)]
        rfl
      have hne : z ≠ x := by
        rintro rfl
        have : z ∈ z :: t := List.mem_cons_self
        rw [(hasB_iff z (z :: t) hs).2 this] at hh
        cases hh
      have ei : ins x (z :: t) = x :: z :: t := by
        unfold ins
        rw [e2]
        rfl
      rw [ei]
      refine ⟨List.pairwise_cons.2 ⟨fun y hy => ?_, hs⟩, fun y => List.mem_cons⟩
      rcases List.mem_cons.1 hy with rfl | hy
      · omega
      · have := h1 y hy; omega
theorem put_spec (x : Int) (l : List Int) (hs : l.Pairwise (· < ·)) : (put x l).Pairwise (· < ·) ∧ (∀ y, y ∈ put x l ↔ y = x ∨ y ∈ l) ∧ (put x l).length ≤ l.length + 1 := by
  unfold put
  by_cases h : hasB x l = true
  · rw [if_pos h]
    have hm := (hasB_iff x l hs).1 h
    refine ⟨hs, fun y => ⟨.inr, ?_⟩, by omega⟩
    rintro (rfl | h)
    · exact hm
    · exact h
  · rw [if_neg h]
    obtain ⟨h1, h2⟩ := ins_spec x l hs (by simpa using h)
    refine ⟨h1, h2, ?_⟩
    unfold ins
    have := idx_le x l
    simp
    omega
/-- What Insert leaves: the list with x; beside the set's block nothing that was there has turned. -/
theorem insert_ok (q : Nat) (l : List Int) (x : Int) (w : World) (h : SpAt w q l) (hl : l.length ≤ 900) :
    Calls Tryd.prog 71 #[.pointer (some ⟨q, 0, none⟩), .int .i64 x] w fun e w' => (∃ b, e = .returned (.bool b)) ∧ SpAt w' q (put x l) ∧ w.heap.size ≤ w'.heap.size ∧ ∀ (B : Nat) (w0 : World), Below B w0 w → B ≤ q → B ≤ w.heap.size → Below B w0 w' := by
  cases hh : hasB x l
  · refine (insert_new q l x w h hl hh).mono ?_
    rintro e w' ⟨rfl, w1, v1, hb, hR, rfl⟩
    obtain ⟨A, c, hbk, hc, hC⟩ := h
    have hq : q < w.heap.size := by
      rcases Nat.lt_or_ge q w.heap.size with h | h
      · exact h
      · rw [Array.getElem?_eq_none h] at hbk; cases hbk
    obtain ⟨A1, c1, rfl⟩ := Kd.R_slice hR
    have hR2 := Kd.R_mono (Kd.R_bound hR) (fun k hk => (⟨trivial, hk.2.1⟩ : True ∧ w.heap.size ≤ k))
    have hR3 := Kd.R_far hR2 (p := ⟨q, 0, none⟩) (fun k hk => by have := hk.2; simp; omega) (.slice A1 (ins x l).length c1)
    refine ⟨⟨true, rfl⟩, ?_, ?_, fun B w0 h0 hBq hBw => ?_⟩
    · have ep : put x l = ins x l := by unfold put; rw [if_neg (by simp [hh])]
      rw [ep]
      refine ⟨A1, c1, ?_, (Kd.R_reads' hR3).2.1, (Kd.R_reads' hR3).2.2⟩
      have h1 := (hb.block q hq).trans hbk
      simp [World.setCell, h1, Array.getElem?_modify]
    · have := hb.size
      simp [World.setCell]
      omega
    · exact (below_then h0 hBw hb).setCell (p := ⟨q, 0, none⟩) hBq _
  · refine (insert_old q l x w h hl hh).mono ?_
    rintro e w' ⟨rfl, rfl⟩
    refine ⟨⟨false, rfl⟩, ?_, Nat.le_refl _, fun B w0 h0 _ _ => h0⟩
    unfold put
    rw [if_pos hh]
    exact h
end Go.Proofs.YtlghbhkpdlkhjaaDoor.PIS
