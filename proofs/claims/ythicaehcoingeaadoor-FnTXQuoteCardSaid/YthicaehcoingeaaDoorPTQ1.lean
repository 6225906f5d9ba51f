-- written by gprint.py, a program of this claim's own, by means of the kit's print
import Derived.Test.YthicaehcoingeaaDoorPTQ0
import Derived.Test.YthicaehcoingeaaDoorQTc
namespace Go.Proofs.YthicaehcoingeaaDoor.PTQ
open Go.RowKit Go.Proofs.YthicaehcoingeaaDoorW.PrintWords Go.Proofs.YthicaehcoingeaaDoorW.PrintLast Go.Proofs.YthicaehcoingeaaDoorW.PrintMore
attribute [local go_sem] max2_int min2_int max_two min_two max_three min_three max_four min_four   -- for this text's walks alone
set_option linter.unusedVariables false
set_option linter.unusedSimpArgs false

/-! ### laws_txPlain: function 19 -/
def laws_txPlain.l0 : Nat → List Int → ByteArray → Int → Option (ByteArray)
  | 0, _, _, _ => none
  | k + 1, x0, x3, x4 => if x4 < (x0.length : Int) then (if x4 < 40 then (if 0 ≤ x4 then ((some (([(32 + (Int.tmod (rd x0 x4) 95)) % 256] : List Int) : List Int)).bind fun y102 => (if x3.size + (strOfNums y102).size ≤ 9223372036854775807 then (laws_txPlain.l0 k x0 (x3 ++ (strOfNums y102)) (wrap64 (x4 + 1))) else (none))) else (none)) else (some x3)) else (some x3)
def laws_txPlain.f (k : Nat) (l0 : List Int) : Option (ByteArray) := laws_txPlain.l0 k l0 (⟨#[]⟩ : ByteArray) 0
theorem laws_txPlain.mono_l : ∀ k, (∀ y0 y1 y2, LeO (laws_txPlain.l0 k y0 y1 y2) (laws_txPlain.l0 (k + 1) y0 y1 y2))
  | 0 => fun _ _ _ r h => by simp [laws_txPlain.l0] at h
  | k + 1 => by
    have ih0 := laws_txPlain.mono_l k
    · intro y0 y1 y2
      unfold laws_txPlain.l0
      repeat' first
      | (with_reducible exact ih0 _ _ _)
      | (with_reducible exact LeO.refl _)
      | (with_reducible exact LeO.none _)
      | (with_reducible refine LeO.ite ?_ ?_)
      | (with_reducible refine LeO.bind ?_ (fun _ => ?_))
      | exact ih0 _ _ _
      | exact LeO.none _
      | refine LeO.ite ?_ ?_
      | refine LeO.bind ?_ (fun _ => ?_)
theorem laws_txPlain.mono : ∀ a0 k, LeO (laws_txPlain.f k a0) (laws_txPlain.f (k + 1) a0) := by
  intro a0 k
  have ih0 := laws_txPlain.mono_l k
  unfold laws_txPlain.f
  repeat' first
      | (with_reducible exact ih0 _ _ _)
      | (with_reducible exact LeO.refl _)
      | (with_reducible exact LeO.none _)
      | (with_reducible refine LeO.ite ?_ ?_)
      | (with_reducible refine LeO.bind ?_ (fun _ => ?_))
      | exact ih0 _ _ _
      | exact LeO.none _
      | refine LeO.ite ?_ ?_
      | refine LeO.bind ?_ (fun _ => ?_)
set_option maxHeartbeats 8000000 in
set_option maxRecDepth 100000 in
theorem laws_txPlain.calls (k : Nat) (A0 : Option Addr) (c0 : Nat) (l0 : List Int) (r : ByteArray) (w : World) (hr0 : Kd.C (Kd.int .u8) w A0 l0.length l0) (hc0 : l0.length ≤ c0) (h : laws_txPlain.f k l0 = some r) :
    Calls Tryd.prog 19 #[.slice A0 l0.length c0] w fun e w' => e = .returned (.string r) ∧ Below w.heap.size w w' := by
  have HR0 := Aside0.mk hr0
  have HC0 := Aside0.mk hc0
  clear hr0 hc0
  have HB := Aside0.mk (Below.refl w.heap.size w)
  have H : (laws_txPlain.l0 k l0 (⟨#[]⟩ : ByteArray) 0) = some r := h
  clear h
  have H' := Aside0.mk H
  clear H
  go_enter Tryd.func19, Tryd.ntmps19
  go_wp2
  go_loopg [3, 4] k (fun kq v3 v4 w' => ∃ (x3_1 : ByteArray) (x4_1 : Int), v3 = .string x3_1 ∧ v4 = .int .i64 x4_1 ∧ Aside0 (laws_txPlain.l0 kq l0 x3_1 x4_1 = some r) ∧ Aside0 (kq ≤ k) ∧ Aside0 (Below w.heap.size w w'))
  case atStart => exact ⟨((⟨#[]⟩ : ByteArray)), (0), (by first | rfl | (simp; done) | (simp [*]; done)), (by first | rfl | (simp; done) | (simp [*]; done)), H', ⟨Nat.le_refl _⟩, ⟨by repeat (first | (with_reducible first | exact HB.out | apply below_alloc | apply pw_below_drewN | apply below_drew1) | exact HB.out)⟩⟩
  case round =>
    clear H'
    try clear c1
    obtain ⟨x3_1, x4_1, rfl, rfl, HA, HK1, HB⟩ := hrel
    cases gk with
    | zero => exact absurd HA.out (by simp [laws_txPlain.l0])
    | succ k1 =>
      have H := HA.out
      clear HA
      simp only [laws_txPlain.l0] at H
      by_cases c2 : x4_1 < (l0.length : Int)
      · rw [if_pos c2] at H
        have c2b0 : decide (x4_1 < (l0.length : Int)) = true := decide_eq_true c2
        clear c2
        by_cases c3 : x4_1 < 40
        · rw [if_pos c3] at H
          have c3b0 : decide (x4_1 < 40) = true := decide_eq_true c3
          clear c3
          by_cases c4 : 0 ≤ x4_1
          · rw [if_pos c4] at H
            have c4b0 : decide (0 ≤ x4_1) = true := decide_eq_true c4
            clear c4
            obtain ⟨y102, hy102⟩ : ∃ y_ : List Int, y_ = (([(32 + (Int.tmod (rd l0 x4_1) 95)) % 256] : List Int)) := ⟨_, rfl⟩
            replace H : (if x3_1.size + (strOfNums y102).size ≤ 9223372036854775807 then (laws_txPlain.l0 k1 l0 (x3_1 ++ (strOfNums y102)) (wrap64 (x4_1 + 1))) else (none)) = some r := by first | (rw [hy102]; with_reducible exact H) | (have H2_ := (Option.bind_some _ _).symm.trans H; rw [hy102]; with_reducible exact H2_) | (have H2_ := (Option.bind_some _ _).symm.trans H; with_reducible exact H2_) | with_reducible exact H | (rw [hy102]; exact H) | exact H
            have Ny102 := Aside0.mk hy102
            clear hy102
            by_cases c5 : x3_1.size + (strOfNums y102).size ≤ 9223372036854775807
            · rw [if_pos c5] at H
              have c5b0 := eq_true c5
              have c5b1 : decide (x3_1.size + (strOfNums y102).size ≤ 9223372036854775807) = true := decide_eq_true c5
              try have c5b2 : (9223372036854775807 < x3_1.size + (strOfNums y102).size) = False := eq_false (Nat.not_lt.2 c5)
              have H' := Aside0.mk H
              clear H
              have p101 : 0 ≤ (x4_1 : Int) := of_decide_eq_true (by first | (with_reducible assumption) | assumption)
              have q101 : x4_1 < (l0.length : Int) := of_decide_eq_true (by first | (with_reducible assumption) | assumption)
              obtain ⟨ad101, e101, hx101_0⟩ := Kd.at_int HR0.out x4_1 p101 q101
              cases e101
              replace hx101_0 := (HB.out.cell (World.block_lt_of_cell? w _ hx101_0)).trans hx101_0
              replace p101 := eq_true p101
              replace q101 := eq_true q101
              go_wp2_with (first | ((with_reducible refine gate_dst (N := 22) rfl ?_); refine Kd.R_lit (Kd.int .u8) _ 5 ?hg (N := 22) ?hd (xs := ([(32 + (Int.tmod (rd l0 x4_1) 95)) % 256] : List Int)) (inner := [.int .u8 ((32 + (Int.tmod (rd l0 x4_1) 95)) % 256)]) (ok := fun _ => True) (okp := fun _ => True) ?hr ?hp (fun _ hk => hk) trivial (Below.refl _ _) (Nat.le_refl _) (by simp) ?_; (case hd => rfl); (case hg => rfl); (case hr => first | (go_simp; done) | (go_simp; rfl)); (case hp => exact (Reps.one (show Kd.M (Kd.int .u8) _ _ _ ((32 + (Int.tmod (rd l0 x4_1) 95)) % 256) [.int .u8 ((32 + (Int.tmod (rd l0 x4_1) 95)) % 256)] from rfl) (Reps.none _ _))); intro v103 w6 ho7 hb hg_ hnew_; clear hg_ hnew_; (first | rw [← Ny102.out] at ho7 | (simp only [Int.reduceToNat] at ho7; rw [← Ny102.out] at ho7)); have n0_ := Aside0.mk (Kd.R_lower ho7 (below_size (by repeat (first | (with_reducible first | exact HB.out | apply below_alloc | apply pw_below_drewN | apply below_drew1) | exact HB.out)))); have n1_ := Aside0.mk (below_step (by repeat (first | (with_reducible first | exact HB.out | apply below_alloc | apply pw_below_drewN | apply below_drew1) | exact HB.out)) hb); clear HB; have HO104 := n0_; have HB := n1_; clear n0_ n1_; clear hb ho7; have hcv8 := own_string (P := Tryd.prog) Tryd.underlying23 Tryd.underlying5 Tryd.underlying9 (Kd.own_of_R HO104.out)))
              go_roundg k1
              case measure => have := HK1.out; omega
              case rel => exact ⟨(x3_1 ++ (strOfNums y102)), (wrap64 (x4_1 + 1)), (by first | rfl | (simp; done) | (simp [*]; done)), (by first | rfl | (simp; done) | (simp [*]; done)), H', ⟨by have := HK1.out; omega⟩, ⟨by repeat (first | (with_reducible first | exact HB.out | apply below_alloc | apply pw_below_drewN | apply below_drew1) | exact HB.out)⟩⟩
            · rw [if_neg c5] at H
              exact absurd H (by simp)
          · rw [if_neg c4] at H
            exact absurd H (by simp)
        · rw [if_neg c3] at H
          have c3b0 : decide (x4_1 < 40) = false := decide_eq_false c3
          clear c3
          obtain rfl := Option.some.inj H
          go_wp2
          go_ret
          exact ⟨by first | rfl | (simp [errW_none, errW_some] <;> rfl) | (simp [*, errW_none, errW_some] <;> rfl), by repeat (first | (with_reducible first | exact HB.out | apply below_alloc | apply pw_below_drewN | apply below_drew1) | exact HB.out)⟩
      · rw [if_neg c2] at H
        have c2b0 : decide (x4_1 < (l0.length : Int)) = false := decide_eq_false c2
        clear c2
        obtain rfl := Option.some.inj H
        go_wp2
        go_ret
        exact ⟨by first | rfl | (simp [errW_none, errW_some] <;> rfl) | (simp [*, errW_none, errW_some] <;> rfl), by repeat (first | (with_reducible first | exact HB.out | apply below_alloc | apply pw_below_drewN | apply below_drew1) | exact HB.out)⟩

/-! ### laws_FnTXQuote: function 6 -/
def laws_FnTXQuote.f (k : Nat) (l0 : List Int) : Option (Bool) := if (l0.length : Int) > 2147483647 then (some true) else ((laws_txPlain.f k l0).bind fun t105 => ((impl_TXQuote.f t105).bind fun t106 => ((impl_TXUnquote.f t106).bind fun bt107 => (if bt107.2 = true then (if bt107.1.toList = t105.toList then (some (decide ((t106.size : Int) ≥ (wrap64 ((t105.size : Int) + 2))))) else (some false)) else (some false)))))
theorem laws_FnTXQuote.mono : ∀ a0 k, LeO (laws_FnTXQuote.f k a0) (laws_FnTXQuote.f (k + 1) a0) := by
  intro a0 k
  unfold laws_FnTXQuote.f
  repeat' first
      | (with_reducible exact laws_txPlain.mono _ _)
      | (with_reducible exact LeO.refl _)
      | (with_reducible exact LeO.none _)
      | (with_reducible refine LeO.ite ?_ ?_)
      | (with_reducible refine LeO.bind ?_ (fun _ => ?_))
      | exact laws_txPlain.mono _ _
      | exact LeO.none _
      | refine LeO.ite ?_ ?_
      | refine LeO.bind ?_ (fun _ => ?_)
set_option maxHeartbeats 8000000 in
set_option maxRecDepth 100000 in
theorem laws_FnTXQuote.calls (k : Nat) (A0 : Option Addr) (c0 : Nat) (l0 : List Int) (r : Bool) (w : World) (hr0 : Kd.C (Kd.int .u8) w A0 l0.length l0) (hc0 : l0.length ≤ c0) (h : laws_FnTXQuote.f k l0 = some r) :
    Calls Tryd.prog 6 #[.slice A0 l0.length c0] w fun e w' => e = .returned (.bool r) ∧ Below w.heap.size w w' := by
  have HR0 := Aside0.mk hr0
  have HC0 := Aside0.mk hc0
  clear hr0 hc0
  have HB := Aside0.mk (Below.refl w.heap.size w)
  have H : (if (l0.length : Int) > 2147483647 then (some true) else ((laws_txPlain.f k l0).bind fun t105 => ((impl_TXQuote.f t105).bind fun t106 => ((impl_TXUnquote.f t106).bind fun bt107 => (if bt107.2 = true then (if bt107.1.toList = t105.toList then (some (decide ((t106.size : Int) ≥ (wrap64 ((t105.size : Int) + 2))))) else (some false)) else (some false)))))) = some r := h
  clear h
  by_cases c2 : (l0.length : Int) > 2147483647
  · rw [if_pos c2] at H
    have c2b0 : decide (2147483647 < (l0.length : Int)) = true := decide_eq_true c2
    have c2b1 : decide (2147483647 < l0.length) = true := decide_eq_true (by omega)
    clear c2
    obtain rfl := Option.some.inj H
    go_enter Tryd.func6, Tryd.ntmps6
    go_wp2
    go_ret
    exact ⟨by first | rfl | (simp [errW_none, errW_some] <;> rfl) | (simp [*, errW_none, errW_some] <;> rfl), by repeat (first | (with_reducible first | exact HB.out | apply below_alloc | apply pw_below_drewN | apply below_drew1) | exact HB.out)⟩
  · rw [if_neg c2] at H
    have c2b0 : decide (2147483647 < (l0.length : Int)) = false := decide_eq_false c2
    have c2b1 : decide (2147483647 < l0.length) = false := decide_eq_false (by omega)
    clear c2
    replace H := Option.bind_eq_some_iff.mp H
    obtain ⟨t105, A30, H⟩ := H
    replace H : ((impl_TXQuote.f t105).bind fun t106 => ((impl_TXUnquote.f t106).bind fun bt107 => (if bt107.2 = true then (if bt107.1.toList = t105.toList then (some (decide ((t106.size : Int) ≥ (wrap64 ((t105.size : Int) + 2))))) else (some false)) else (some false)))) = some r := H
    have A3 := Aside0.mk A30
    clear A30
    replace H := Option.bind_eq_some_iff.mp H
    obtain ⟨t106, A40, H⟩ := H
    replace H : ((impl_TXUnquote.f t106).bind fun bt107 => (if bt107.2 = true then (if bt107.1.toList = t105.toList then (some (decide ((t106.size : Int) ≥ (wrap64 ((t105.size : Int) + 2))))) else (some false)) else (some false))) = some r := H
    have A4 := Aside0.mk A40
    clear A40
    replace H := Option.bind_eq_some_iff.mp H
    obtain ⟨⟨t107, t108⟩, A50, H⟩ := H
    replace H : (if t108 = true then (if t107.toList = t105.toList then (some (decide ((t106.size : Int) ≥ (wrap64 ((t105.size : Int) + 2))))) else (some false)) else (some false)) = some r := H
    have A5 := Aside0.mk A50
    clear A50
    by_cases c6 : t108 = true
    · subst c6
      have H1 : (if t107.toList = t105.toList then (some (decide ((t106.size : Int) ≥ (wrap64 ((t105.size : Int) + 2))))) else (some false)) = some r := by rw [if_pos rfl] at H; exact H
      clear H
      have H := H1
      clear H1
      by_cases c7 : t107.toList = t105.toList
      · rw [if_pos c7] at H
        have c7b0 : (t107.toList == t105.toList) = true := beq_iff_eq.mpr c7
        have c7b1 : (t107.toList != t105.toList) = false := bne_eq_false_iff_eq.mpr c7
        clear c7
        obtain rfl := Option.some.inj H
        go_enter Tryd.func6, Tryd.ntmps6
        go_wp2_with (first | ((with_reducible refine gate_callee (f := 19) rfl ?_); refine goesL_ (some 11) rfl rfl Tryd.func19 (by kernel_rfl) rfl #[.slice A0 l0.length c0] rfl (by (try simp only [List.map_toArray, List.map_cons, List.map_nil]); first | done | rfl | (simp only [List.length_drop, List.length_take]; rfl)) ?_; (with_reducible refine (laws_txPlain.calls k _ _ l0 t105 _ ?side1 ?side2 A3.out).mono ?_); (case side1 => repeat (first | exact HR0.out | (with_reducible refine Kd.C_alloc ?_ _) | (with_reducible refine Kd.C_drewN ?_ _) | (with_reducible refine Kd.C_drew ?_))); (case side2 => exact HC0.out); rintro e w8 ⟨rfl, hb⟩; refine ⟨_, rfl, ?_⟩; have n0_ := Aside0.mk (below_step (by repeat (first | (with_reducible first | exact HB.out | apply below_alloc | apply pw_below_drewN | apply below_drew1) | exact HB.out)) hb); clear HB; have HB := n0_; clear n0_; (try clear hb); (try clear hb2); (try clear hk); (try clear hi)) | ((with_reducible refine gate_callee (f := 20) rfl ?_); refine goesL_ (some 13) rfl rfl Tryd.func20 (by kernel_rfl) rfl #[.string t105] rfl (by (try simp only [List.map_toArray, List.map_cons, List.map_nil]); first | done | rfl | (simp only [List.length_drop, List.length_take]; rfl)) ?_; (with_reducible refine (impl_TXQuote.calls t105 t106 _ A4.out).mono ?_); rintro e w9 ⟨rfl, hb⟩; refine ⟨_, rfl, ?_⟩; have n0_ := Aside0.mk (below_step (by repeat (first | (with_reducible first | exact HB.out | apply below_alloc | apply pw_below_drewN | apply below_drew1) | exact HB.out)) hb); clear HB; have HB := n0_; clear n0_; (try clear hb); (try clear hb2); (try clear hk); (try clear hi)) | ((with_reducible refine gate_callee (f := 21) rfl ?_); refine goesL_ (some 16) rfl rfl Tryd.func21 (by kernel_rfl) rfl #[.string t106] rfl (by (try simp only [List.map_toArray, List.map_cons, List.map_nil]); first | done | rfl | (simp only [List.length_drop, List.length_take]; rfl)) ?_; (with_reducible refine (impl_TXUnquote.calls t106 t107 true _ A5.out).mono ?_); rintro e w10 ⟨rfl, hb⟩; refine ⟨_, rfl, ?_⟩; have n0_ := Aside0.mk (below_step (by repeat (first | (with_reducible first | exact HB.out | apply below_alloc | apply pw_below_drewN | apply below_drew1) | exact HB.out)) hb); clear HB; have HB := n0_; clear n0_; (try clear hb); (try clear hb2); (try clear hk); (try clear hi)))
        go_ret
        exact ⟨by first | rfl | (simp [errW_none, errW_some] <;> rfl) | (simp [*, errW_none, errW_some] <;> rfl), by repeat (first | (with_reducible first | exact HB.out | apply below_alloc | apply pw_below_drewN | apply below_drew1) | exact HB.out)⟩
      · rw [if_neg c7] at H
        have c7b0 : (t107.toList == t105.toList) = false := beq_eq_false_iff_ne.mpr c7
        have c7b1 : (t107.toList != t105.toList) = true := bne_iff_ne.mpr c7
        obtain rfl := Option.some.inj H
        go_enter Tryd.func6, Tryd.ntmps6
        go_wp2_with (first | ((with_reducible refine gate_callee (f := 19) rfl ?_); refine goesL_ (some 11) rfl rfl Tryd.func19 (by kernel_rfl) rfl #[.slice A0 l0.length c0] rfl (by (try simp only [List.map_toArray, List.map_cons, List.map_nil]); first | done | rfl | (simp only [List.length_drop, List.length_take]; rfl)) ?_; (with_reducible refine (laws_txPlain.calls k _ _ l0 t105 _ ?side1 ?side2 A3.out).mono ?_); (case side1 => repeat (first | exact HR0.out | (with_reducible refine Kd.C_alloc ?_ _) | (with_reducible refine Kd.C_drewN ?_ _) | (with_reducible refine Kd.C_drew ?_))); (case side2 => exact HC0.out); rintro e w11 ⟨rfl, hb⟩; refine ⟨_, rfl, ?_⟩; have n0_ := Aside0.mk (below_step (by repeat (first | (with_reducible first | exact HB.out | apply below_alloc | apply pw_below_drewN | apply below_drew1) | exact HB.out)) hb); clear HB; have HB := n0_; clear n0_; (try clear hb); (try clear hb2); (try clear hk); (try clear hi)) | ((with_reducible refine gate_callee (f := 20) rfl ?_); refine goesL_ (some 13) rfl rfl Tryd.func20 (by kernel_rfl) rfl #[.string t105] rfl (by (try simp only [List.map_toArray, List.map_cons, List.map_nil]); first | done | rfl | (simp only [List.length_drop, List.length_take]; rfl)) ?_; (with_reducible refine (impl_TXQuote.calls t105 t106 _ A4.out).mono ?_); rintro e w12 ⟨rfl, hb⟩; refine ⟨_, rfl, ?_⟩; have n0_ := Aside0.mk (below_step (by repeat (first | (with_reducible first | exact HB.out | apply below_alloc | apply pw_below_drewN | apply below_drew1) | exact HB.out)) hb); clear HB; have HB := n0_; clear n0_; (try clear hb); (try clear hb2); (try clear hk); (try clear hi)) | ((with_reducible refine gate_callee (f := 21) rfl ?_); refine goesL_ (some 16) rfl rfl Tryd.func21 (by kernel_rfl) rfl #[.string t106] rfl (by (try simp only [List.map_toArray, List.map_cons, List.map_nil]); first | done | rfl | (simp only [List.length_drop, List.length_take]; rfl)) ?_; (with_reducible refine (impl_TXUnquote.calls t106 t107 true _ A5.out).mono ?_); rintro e w13 ⟨rfl, hb⟩; refine ⟨_, rfl, ?_⟩; have n0_ := Aside0.mk (below_step (by repeat (first | (with_reducible first | exact HB.out | apply below_alloc | apply pw_below_drewN | apply below_drew1) | exact HB.out)) hb); clear HB; have HB := n0_; clear n0_; (try clear hb); (try clear hb2); (try clear hk); (try clear hi)))
        go_ret
        exact ⟨by first | rfl | (simp [errW_none, errW_some] <;> rfl) | (simp [*, errW_none, errW_some] <;> rfl), by repeat (first | (with_reducible first | exact HB.out | apply below_alloc | apply pw_below_drewN | apply below_drew1) | exact HB.out)⟩
    · replace c6 := Bool.eq_false_iff.mpr c6
      subst c6
      have H1 : (some false) = some r := by rw [if_neg (show ¬ (false = true) by decide)] at H; exact H
      clear H
      have H := H1
      clear H1
      obtain rfl := Option.some.inj H
      go_enter Tryd.func6, Tryd.ntmps6
      go_wp2_with (first | ((with_reducible refine gate_callee (f := 19) rfl ?_); refine goesL_ (some 11) rfl rfl Tryd.func19 (by kernel_rfl) rfl #[.slice A0 l0.length c0] rfl (by (try simp only [List.map_toArray, List.map_cons, List.map_nil]); first | done | rfl | (simp only [List.length_drop, List.length_take]; rfl)) ?_; (with_reducible refine (laws_txPlain.calls k _ _ l0 t105 _ ?side1 ?side2 A3.out).mono ?_); (case side1 => repeat (first | exact HR0.out | (with_reducible refine Kd.C_alloc ?_ _) | (with_reducible refine Kd.C_drewN ?_ _) | (with_reducible refine Kd.C_drew ?_))); (case side2 => exact HC0.out); rintro e w14 ⟨rfl, hb⟩; refine ⟨_, rfl, ?_⟩; have n0_ := Aside0.mk (below_step (by repeat (first | (with_reducible first | exact HB.out | apply below_alloc | apply pw_below_drewN | apply below_drew1) | exact HB.out)) hb); clear HB; have HB := n0_; clear n0_; (try clear hb); (try clear hb2); (try clear hk); (try clear hi)) | ((with_reducible refine gate_callee (f := 20) rfl ?_); refine goesL_ (some 13) rfl rfl Tryd.func20 (by kernel_rfl) rfl #[.string t105] rfl (by (try simp only [List.map_toArray, List.map_cons, List.map_nil]); first | done | rfl | (simp only [List.length_drop, List.length_take]; rfl)) ?_; (with_reducible refine (impl_TXQuote.calls t105 t106 _ A4.out).mono ?_); rintro e w15 ⟨rfl, hb⟩; refine ⟨_, rfl, ?_⟩; have n0_ := Aside0.mk (below_step (by repeat (first | (with_reducible first | exact HB.out | apply below_alloc | apply pw_below_drewN | apply below_drew1) | exact HB.out)) hb); clear HB; have HB := n0_; clear n0_; (try clear hb); (try clear hb2); (try clear hk); (try clear hi)) | ((with_reducible refine gate_callee (f := 21) rfl ?_); refine goesL_ (some 16) rfl rfl Tryd.func21 (by kernel_rfl) rfl #[.string t106] rfl (by (try simp only [List.map_toArray, List.map_cons, List.map_nil]); first | done | rfl | (simp only [List.length_drop, List.length_take]; rfl)) ?_; (with_reducible refine (impl_TXUnquote.calls t106 t107 false _ A5.out).mono ?_); rintro e w16 ⟨rfl, hb⟩; refine ⟨_, rfl, ?_⟩; have n0_ := Aside0.mk (below_step (by repeat (first | (with_reducible first | exact HB.out | apply below_alloc | apply pw_below_drewN | apply below_drew1) | exact HB.out)) hb); clear HB; have HB := n0_; clear n0_; (try clear hb); (try clear hb2); (try clear hk); (try clear hi)))
      go_ret
      exact ⟨by first | rfl | (simp [errW_none, errW_some] <;> rfl) | (simp [*, errW_none, errW_some] <;> rfl), by repeat (first | (with_reducible first | exact HB.out | apply below_alloc | apply pw_below_drewN | apply below_drew1) | exact HB.out)⟩

/-- THE ONE PURE STATEMENT of laws_FnTXQuote: yours. -/
def laws_FnTXQuote.Pure : Prop := ∀ (l0 : List Int), l0.length ≤ maxLen → l0.length * 1 ≤ 140737488351232 → (∀ x ∈ l0, (Lit.int .u8 x).wf = true) → ∃ k, laws_FnTXQuote.f k l0 = some true
theorem laws_FnTXQuote.walk (P : laws_FnTXQuote.Pure) (a0 : Option Addr) (len0 cap0 : Nat) (z0 : List Int) (w : World) (w0 : (a0 = none ∧ len0 = 0 ∧ cap0 = 0 ∧ z0 = []) ∨ ∃ x, a0 = some x ∧ len0 ≤ cap0 ∧ cap0 ≤ maxLen ∧ z0.length = cap0 ∧ (∀ i, i < z0.length → w.cell? (x.add i) = some (.int .u8 (z0.getD i 0))) ∧ ∀ n ∈ z0, (Lit.int .u8 n).wf = true) (y0 : len0 * 1 ≤ 140737488351232) :
    Calls Tryd.prog 6 #[.slice a0 len0 cap0] w fun e w' => e = .returned (.bool true) ∧ Below w.heap.size w w' := by
  obtain ⟨l0, rfl, hr0, hm0, hw0, hc0⟩ := ReadsInt.ofRowC w0
  obtain ⟨k, h⟩ := P l0 hm0 y0 hw0
  refine (laws_FnTXQuote.calls k _ _ l0 true w (Kd.C_of_reads (d := (0 : Int)) (h1 := fun _ => rfl) hr0) hc0 h).mono ?_
  rintro e w' ⟨rfl, hd⟩
  exact ⟨rfl, hd⟩

end Go.Proofs.YthicaehcoingeaaDoor.PTQ
