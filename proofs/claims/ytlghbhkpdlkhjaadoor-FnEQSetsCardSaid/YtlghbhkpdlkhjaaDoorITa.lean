/-
  Contract of FastIntSet.ForEach over any function: what the function keeps from one number to the next. Condition: numbers from 0 to 1000, at most 300.
-/
import Derived.Test.YtlghbhkpdlkhjaaDoorISl
namespace Go.Proofs.YtlghbhkpdlkhjaaDoor.PIS
open Go.RowKit Go.Proofs.YtlghbhkpdlkhjaaDoorW.PrintWords Go.Proofs.YtlghbhkpdlkhjaaDoorW.PrintLast Go.Proofs.YtlghbhkpdlkhjaaDoorW.PrintMore
set_option linter.unusedVariables false
set_option linter.unusedSimpArgs false
set_option maxRecDepth 100000
set_option maxHeartbeats 400000

/-- what is not of X stands as it stood -/
def Kept (X : Nat → Obj → Prop) (w w' : World) : Prop := ∀ k o, w.heap[k]? = some o → ¬ X k o → w'.heap[k]? = some o
theorem Kept.refl (X : Nat → Obj → Prop) (w : World) : Kept X w w := fun _ _ h _ => h
theorem Kept.trans {X : Nat → Obj → Prop} {a b c : World} (h : Kept X a b) (k : Kept X b c) : Kept X a c := fun i o hi hx => k i o (h i o hi hx) hx
theorem Kept.below {X : Nat → Obj → Prop} {w w' : World} (h : Below w.heap.size w w') : Kept X w w' := fun k o hk _ => (h.block k (heap_lt hk)).trans hk
/-- the lowest bit is the first number; without it the others are left -/
theorem bits_head {m : Nat} {l : List Int} (hm : m < 18446744073709551616) (h : Bits m 64 l) (hs : l.Pairwise (· < ·)) (h0 : m ≠ 0) :
    ∃ t, l = (Lib.ctz 64 m : Int) :: t ∧ Lib.ctz 64 m < 64 ∧ Bits (m &&& (18446744073709551615 - 2 ^ Lib.ctz 64 m)) 64 t ∧ m &&& (18446744073709551615 - 2 ^ Lib.ctz 64 m) < m := by
  obtain ⟨hlow, hk⟩ := Lib.lowest_bit 64 m h0 hm
  obtain ⟨z, hz, _⟩ := Lib.ctzFrom_spec 64 m (by omega) hm
  have ez : Lib.ctz 64 m = Lib.ctzFrom 64 m := by simp [Lib.ctz, h0]
  rw [← ez] at hz
  generalize Lib.ctz 64 m = c at *
  have hb1 : m.testBit c = true := by rw [hz]; exact (low_bits c z 0).1
  have hb2 : ∀ j, j < c → m.testBit j = false := fun j hj => by rw [hz]; exact (low_bits c z j).2 hj
  have hc : (c : Int) ∈ l := (h c).2 ⟨c, rfl, hk, hb1⟩
  have hcm : ∀ j, (18446744073709551615 - 2 ^ c).testBit j = (decide (j < 64) && !decide (c = j)) := fun j => by
    have hp : 2 ^ c < 2 ^ 64 := Nat.pow_lt_pow_right (by decide) hk
    have := Nat.testBit_two_pow_sub_succ (x := 2 ^ c) (n := 64) hp j
    rw [show (18446744073709551615 - 2 ^ c) = 2 ^ 64 - (2 ^ c + 1) by omega, this, Nat.testBit_two_pow]
  have hbit : ∀ j, (m &&& (18446744073709551615 - 2 ^ c)).testBit j = true ↔ m.testBit j = true ∧ j < 64 ∧ j ≠ c := fun j => by
    rw [Nat.testBit_and, hcm]
    simp
    intro _ _
    exact ⟨fun h e => h e.symm, fun h e => h e.symm⟩
  cases l with
  | nil => simp at hc
  | cons a t =>
    obtain ⟨h1, h2⟩ := List.pairwise_cons.1 hs
    obtain ⟨ja, rfl, hja, hta⟩ := (h a).1 (List.mem_cons_self ..)
    have hcj : c ≤ ja := by
      rcases Nat.lt_or_ge ja c with hlt | hge
      · rw [hb2 ja hlt] at hta; cases hta
      · exact hge
    have hca : (c : Int) = ja := by
      rcases List.mem_cons.1 hc with e | e
      · exact e
      · have := h1 _ e; omega
    have hcj' : c = ja := by omega
    subst hcj'
    refine ⟨t, rfl, hk, fun y => ?_, ?_⟩
    · constructor
      · intro hy
        obtain ⟨j, rfl, hj, htj⟩ := (h y).1 (List.mem_cons_of_mem _ hy)
        have := h1 _ hy
        exact ⟨j, rfl, hj, (hbit j).2 ⟨htj, hj, by omega⟩⟩
      · rintro ⟨j, rfl, hj, htj⟩
        obtain ⟨t1, t2, t3⟩ := (hbit j).1 htj
        rcases List.mem_cons.1 ((h j).2 ⟨j, rfl, hj, t1⟩) with e | e
        · exact absurd (by omega) t3
        · exact e
    · refine Nat.lt_of_le_of_ne Nat.and_le_left (fun e => ?_)
      have := (hbit c).1 (by rw [e]; exact hb1)
      exact this.2.2 rfl
theorem bits_nil {m : Nat} {l : List Int} (hm : m < 18446744073709551616) (h : Bits m 64 l) : (((m : Int) != 0) = true ↔ m ≠ 0) ∧ (m = 0 → l = []) := by
  refine ⟨by simp, ?_⟩
  rintro rfl
  cases l with
  | nil => rfl
  | cons a t =>
    obtain ⟨j, _, _, hj⟩ := (h a).1 (List.mem_cons_self ..)
    simp at hj
/-- what runs from number to number -/
structure Fold (g : FuncId) (fr : Array Value) (X : Nat → Obj → Prop) (B : Nat) (l : List Int) (Inv : Nat → World → Prop) : Prop where
  enter : ∀ args W, (callFunc g args).run Tryd.prog W = .ok (.enter g args) W
  own : ∀ k cs fz, ¬ X k (.cells cs 46 fz)
  stable : ∀ k W W', Inv k W → Below W.heap.size W W' → Inv k W'
  step : ∀ k (h : k < l.length) W, Inv k W → Calls Tryd.prog g (#[.int .i64 l[k]] ++ fr) W fun e W' => e = .returned (.tuple #[]) ∧ Inv (k + 1) W' ∧ Below B W W' ∧ Kept X W W'
theorem forEach_small (g : FuncId) (fr : Array Value) (X : Nat → Obj → Prop) (B : Nat) (l : List Int) (Inv : Nat → World → Prop) (F : Fold g fr X B l Inv) (m0 : Nat) (hm : m0 < 18446744073709551616) (hbm : Bits m0 64 l) (hs : l.Pairwise (· < ·)) (w : World) (hB : B ≤ w.heap.size) (hg : ∀ W, Below B w W → Glob W) (h0 : Inv 0 w) :
    Calls Tryd.prog 62 #[.agg #[.int .u64 m0, .pointer none], .func (.func g) #[] fr] w fun e w' => e = .returned (.tuple #[]) ∧ Inv l.length w' ∧ Below B w w' ∧ Kept X w w' := by
  have heg := F.enter
  have HF := Aside0.mk F
  have HG := Aside0.mk hg
  have HI := Aside0.mk (F.stable 0 w (w.alloc (.cells #[.int .u64 m0, .pointer none] 46)) h0 (below_alloc (Below.refl _ _) _))
  have HB := Aside0.mk (show Below B w (w.alloc (.cells #[.int .u64 m0, .pointer none] 46)) from (below_alloc (Below.refl w.heap.size w) _).mono hB)
  have HK := Aside0.mk (show Kept X w (w.alloc (.cells #[.int .u64 m0, .pointer none] 46)) from Kept.below (below_alloc (Below.refl w.heap.size w) _))
  have HBm := Aside0.mk hbm
  have HS := Aside0.mk hs
  have HM := Aside0.mk hm
  clear F hg h0 hbm hs hm
  go_enter Tryd.func62, Tryd.ntmps62
  go_wp2_with fail
  go_loopw [5] (fun t5 wr => ∃ (k m : Nat), t5 = .int .u64 m ∧ k ≤ l.length ∧ Aside0 (m < 18446744073709551616) ∧ Aside0 (Bits m 64 (l.drop k)) ∧ Aside0 ((l.drop k).Pairwise (· < ·)) ∧ Aside0 (Inv k wr) ∧ Aside0 (Below B w wr) ∧ Aside0 (Kept X w wr) ∧ wr.heap[w.heap.size]? = some (.cells #[.int .u64 m0, .pointer none] 46 (0, 0))) (fun t5 _ => (intOf t5).toNat)
  case atStart => exact ⟨0, m0, rfl, by omega, HM, HBm, HS, HI, HB, HK, heap_alloc_new _ _⟩
  case round =>
    clear HM HBm HS HI HB HK
    obtain ⟨k, m, rfl, hk, HM, HBm, HS, HI, HB, HK, hbox⟩ := hrel
    by_cases hm0 : m = 0
    · subst hm0
      have hn : l.drop k = [] := (bits_nil HM.out HBm.out).2 rfl
      obtain rfl : k = l.length := by
        have := congrArg List.length hn
        simp at this; omega
      go_wp2_with fail
      go_end0
      exact ⟨rfl, HI.out, HB.out, HK.out⟩
    · obtain ⟨t, e1, e2, e3, e4⟩ := bits_head HM.out HBm.out HS.out hm0
      have hk2 : k < l.length := by
        rcases Nat.lt_or_ge k l.length with h | h
        · exact h
        · rw [List.drop_eq_nil_of_le h] at e1; cases e1
      have hx : l[k] = ((Lib.ctz 64 m : Nat) : Int) := by
        rw [List.drop_eq_getElem_cons hk2] at e1
        exact (List.cons.inj e1).1
      have ht : l.drop (k + 1) = t := by
        rw [List.drop_eq_getElem_cons hk2] at e1
        exact (List.cons.inj e1).2
      have HTz := Aside0.mk (tz_ok m HM.out wr (HG.out wr HB.out))
      have HSt := Aside0.mk (HF.out.step k hk2 wr HI.out)
      rw [hx] at HSt
      have HE1 := Aside0.mk (show Bits _ 64 (l.drop (k + 1)) from ht ▸ e3)
      have HE2 := Aside0.mk (show (l.drop (k + 1)).Pairwise (· < ·) by rw [ht]; have h := HS.out; rw [e1] at h; exact (List.pairwise_cons.1 h).2)
      have HE3 := Aside0.mk e4
      have HM3 := Aside0.mk (show m &&& (18446744073709551615 - 2 ^ Lib.ctz 64 m) < 18446744073709551616 from Nat.lt_of_le_of_lt Nat.and_le_left HM.out)
      have hmI : ((m : Int) == 0) = false := by simp; omega
      generalize Lib.ctz 64 m = c at *
      have hp : 2 ^ c < 2 ^ 64 := Nat.pow_lt_pow_right (by decide) e2
      have HA := Aside0.mk (show bits .andNot .u64 (m : Int) (IntKind.u64.wrap (2 ^ c)) = ((m &&& (18446744073709551615 - 2 ^ c) : Nat) : Int) by
        have hw : IntKind.u64.wrap (2 ^ c) = ((2 ^ c : Nat) : Int) := by
          have h1 : ((2 : Int) ^ c) = ((2 ^ c : Nat) : Int) := by push_cast; rfl
          rw [h1]
          have hp2 : 2 ^ c < 18446744073709551616 := hp
          generalize 2 ^ c = P at hp2 ⊢
          show ((P : Int)) % 18446744073709551616 = _
          omega
        rw [hw]
        exact u64_andNot_nat m (2 ^ c) HM.out hp)
      clear hp
      generalize m &&& (18446744073709551615 - 2 ^ c) = m2 at *
      clear hx ht e1 e3 e4 HBm HS HI
      go_wp2_with (refine HTz.out.mono ?_; rintro e w2 ⟨rfl, w3⟩; subst w3)
      refine HSt.out.mono ?_
      rintro e w4 ⟨rfl, hi4, hb4, hk4⟩
      have HI4 := Aside0.mk hi4
      have HB4 := Aside0.mk (HB.out.trans hb4)
      have HK4 := Aside0.mk (HK.out.trans hk4)
      have hbox4 := hk4 _ _ hbox (HF.out.own _ _ _)
      clear hi4 hb4 hk4 hbox HSt HTz HB HK
      go_wp2_with fail
      go_roundw
      case rel => exact ⟨k + 1, m2, by rw [HA.out], by omega, HM3, HE1, HE2, HI4, HB4, HK4, hbox4⟩
      case measure => rw [HA.out]; have := HE3.out; simp [intOf]; omega
/-- the first number of what is left -/
def headB (l : List Int) : Int := match l with
  | [] => 9223372036854775807
  | x :: _ => x
theorem headB_min (l : List Int) : minB l = headB l := by cases l <;> rfl
theorem lowB_next (l : List Int) (hs : l.Pairwise (· < ·)) (hb : ∀ z ∈ l, z ≤ 1000) (k : Nat) (hk : k < l.length) : lowB (l[k] + 1) l = headB (l.drop (k + 1)) := by
  obtain ⟨h1, h2⟩ := low_spec (l[k] + 1) l hs hb
  have hget : ∀ i j (hi : i < l.length) (hj : j < l.length), i < j → l[i] < l[j] := fun i j hi hj h => List.pairwise_iff_getElem.1 hs i j hi hj h
  rcases Nat.lt_or_ge (k + 1) l.length with h | h
  · rw [List.drop_eq_getElem_cons h]
    show lowB (l[k] + 1) l = l[k + 1]
    have h3 := h1 l[k + 1] (List.getElem_mem h) (by have := hget k (k + 1) hk h (by omega); omega)
    rcases h2 with ⟨h4, h5⟩ | h4
    · obtain ⟨i, hi, e⟩ := List.mem_iff_getElem.1 h4
      rw [← e] at h3 h5 ⊢
      rcases Nat.lt_or_ge k i with h6 | h6
      · rcases Nat.lt_or_ge (k + 1) i with h7 | h7
        · have := hget (k + 1) i h hi h7; omega
        · have : i = k + 1 := by omega
          subst this; rfl
      · rcases Nat.lt_or_ge i k with h7 | h7
        · have := hget i k hi hk h7; omega
        · have : i = k := by omega
          subst this; omega
    · have := hb _ (List.getElem_mem h); omega
  · rw [List.drop_eq_nil_of_le h]
    rcases h2 with ⟨h4, h5⟩ | h4
    · obtain ⟨i, hi, e⟩ := List.mem_iff_getElem.1 h4
      rcases Nat.lt_or_ge i k with h7 | h7
      · have := hget i k hi hk h7; omega
      · have : i = k := by omega
        subst this; omega
    · exact h4
def muT (t : Value) : Nat := min 1001 (1001 - intOf t).toNat
theorem muT_lt {x y : Int} (h0 : 0 ≤ x) (h1 : x ≤ 1000) (h : y > 1000 ∨ x < y) : muT (.int .i64 y) < muT (.int .i64 x) := by
  unfold muT; simp only [intOf]; omega
theorem forEach_large (g : FuncId) (fr : Array Value) (X : Nat → Obj → Prop) (B : Nat) (l : List Int) (Inv : Nat → World → Prop) (F : Fold g fr X B l Inv) (q : Nat) (hb : ∀ x ∈ l, 0 ≤ x ∧ x ≤ 1000) (hl : l.length ≤ 300) (hs : l.Pairwise (· < ·)) (w : World) (hB : B ≤ w.heap.size) (hS : ∀ W, Below B w W → SpAt W q l) (h0 : Inv 0 w) :
    Calls Tryd.prog 62 #[.agg #[.int .u64 0, .pointer (some ⟨q, 0, none⟩)], .func (.func g) #[] fr] w fun e w' => e = .returned (.tuple #[]) ∧ Inv l.length w' ∧ Below B w w' ∧ Kept X w w' := by
  have heg := F.enter
  have HF := Aside0.mk F
  have HI := Aside0.mk (F.stable 0 w (w.alloc (.cells #[.int .u64 0, .pointer (some ⟨q, 0, none⟩)] 46)) h0 (below_alloc (Below.refl _ _) _))
  have hB0 := (show Below B w (w.alloc (.cells #[.int .u64 0, .pointer (some ⟨q, 0, none⟩)] 46)) from (below_alloc (Below.refl w.heap.size w) _).mono hB)
  have HMin := Aside0.mk (min_ok q l _ (hS _ hB0) (by omega))
  rw [headB_min] at HMin
  have HB := Aside0.mk hB0
  have HK := Aside0.mk (show Kept X w (w.alloc (.cells #[.int .u64 0, .pointer (some ⟨q, 0, none⟩)] 46)) from Kept.below (below_alloc (Below.refl w.heap.size w) _))
  have HS := Aside0.mk hS
  have HP := Aside0.mk hs
  have HR := Aside0.mk hb
  clear F h0 hS hs hb hB0
  go_enter Tryd.func62, Tryd.ntmps62
  go_wp2_with (refine HMin.out.mono ?_; rintro e w2 ⟨rfl, w3⟩; subst w3)
  go_loopw [4] (fun t4 wr => ∃ (k : Nat), t4 = .int .i64 (headB (l.drop k)) ∧ k ≤ l.length ∧ Aside0 (Inv k wr) ∧ Aside0 (Below B w wr) ∧ Aside0 (Kept X w wr) ∧ wr.heap[w.heap.size]? = some (.cells #[.int .u64 0, .pointer (some ⟨q, 0, none⟩)] 46 (0, 0))) (fun t4 _ => muT t4)
  case atStart => exact ⟨0, rfl, by omega, HI, HB, HK, heap_alloc_new _ _⟩
  case round =>
    clear HI HB HK HMin
    obtain ⟨k, rfl, hk, HI, HB, HK, hbox⟩ := hrel
    rcases Nat.lt_or_ge k l.length with hk2 | hk2
    · have hx := HR.out _ (List.getElem_mem hk2)
      have hhd : headB (l.drop k) = l[k] := by rw [List.drop_eq_getElem_cons hk2]; rfl
      rw [hhd]
      have HSt := Aside0.mk (HF.out.step k hk2 wr HI.out)
      have HLow := Aside0.mk (fun W (h : Below B w W) => low_ok q l (l[k] + 1) W (HS.out W h) (by omega))
      rw [lowB_next l HP.out (fun z hz => (HR.out z hz).2) k hk2] at HLow
      have HH := Aside0.mk (show headB (l.drop (k + 1)) > 1000 ∨ l[k] < headB (l.drop (k + 1)) by
        rcases Nat.lt_or_ge (k + 1) l.length with h | h
        · rw [List.drop_eq_getElem_cons h]; right; exact List.pairwise_iff_getElem.1 HP.out k (k + 1) hk2 h (by omega)
        · rw [List.drop_eq_nil_of_le h]; left; show (9223372036854775807 : Int) > 1000; omega)
      generalize hy : headB (l.drop (k + 1)) = y at *
      have HY := Aside0.mk hy
      clear hy
      generalize l[k] = x at *
      clear hhd HI
      go_wp2_with fail
      refine HSt.out.mono ?_
      rintro e w4 ⟨rfl, hi4, hb4, hk4⟩
      have HI4 := Aside0.mk hi4
      have HB4 := Aside0.mk (HB.out.trans hb4)
      have HK4 := Aside0.mk (HK.out.trans hk4)
      have hbox4 := hk4 _ _ hbox (HF.out.own _ _ _)
      have c1 : w4.cell? ⟨w.heap.size, 1, none⟩ = some (.pointer (some ⟨q, 0, none⟩)) := by rw [Lib.cell_of_heap hbox4]; rfl
      have HLw := Aside0.mk (HLow.out w4 HB4.out)
      clear hi4 hb4 hk4 hbox HSt HB HK
      go_wp2_with (refine HLw.out.mono ?_; rintro e w2 ⟨rfl, w3⟩; subst w3)
      go_roundw
      case rel => exact ⟨k + 1, by rw [HY.out], by omega, HI4, HB4, HK4, hbox4⟩
      case measure => exact muT_lt hx.1 hx.2 HH.out
    · obtain rfl : k = l.length := by omega
      rw [show headB (l.drop l.length) = 9223372036854775807 by rw [List.drop_length]; rfl]
      go_wp2_with fail
      refine bodyPost_ret (results_none Tryd.results62 _ _ _) rfl ?_
      exact ⟨rfl, HI.out, HB.out, HK.out⟩
theorem forEach_ok (g : FuncId) (fr : Array Value) (X : Nat → Obj → Prop) (B : Nat) (l : List Int) (v : Value) (Inv : Nat → World → Prop) (F : Fold g fr X B l Inv) (hb : ∀ x ∈ l, 0 ≤ x ∧ x ≤ 1000) (hl : l.length ≤ 300) (w : World) (hB : B ≤ w.heap.size) (hg : ∀ W, Below B w W → Glob W) (hS : ∀ W, Below B w W → SetV W v l) (h0 : Inv 0 w) :
    Calls Tryd.prog 62 #[v, .func (.func g) #[] fr] w fun e w' => e = .returned (.tuple #[]) ∧ Inv l.length w' ∧ Below B w w' ∧ Kept X w w' := by
  obtain ⟨hs, ⟨m, hm, rfl, hbm⟩ | ⟨q, rfl, _⟩⟩ := hS w (Below.refl _ _)
  · exact forEach_small g fr X B l Inv F m hm hbm hs w hB hg h0
  · refine forEach_large g fr X B l Inv F q hb hl hs w hB (fun W h => ?_) h0
    obtain ⟨_, ⟨m, hm, e, hbm⟩ | ⟨q2, e, hq⟩⟩ := hS W h
    · cases e
    · cases e; exact hq
end Go.Proofs.YtlghbhkpdlkhjaaDoor.PIS
