-- PRINTED BY print.sh 35421559b90ae4d0a3588c463048766b98c2df88dd9212a6774a882060cdf62d: not written by this session
import Derived.Test.YtoeapddecmhlkaaGreatDoorPFnFDOnex0
namespace Go.Proofs.YtoeapddecmhlkaaGreatDoor.PFnFDOne
open Go.RowKit Go.Proofs.YtoeapddecmhlkaaGreatDoorW.PrintWords Go.Proofs.YtoeapddecmhlkaaGreatDoorW.PrintLast Go.Proofs.YtoeapddecmhlkaaGreatDoorW.PrintMore
attribute [local go_sem] max2_int min2_int max_two min_two max_three min_three max_four min_four   -- for this text's walks alone
set_option linter.unusedVariables false
set_option linter.unusedSimpArgs false

/-! ### laws_fdPick: function 4 -/
def laws_fdPick.l0 : Nat → List Int → Int → List Int → Int → Option (List Int)
  | 0, _, _, _, _ => none
  | k + 1, x0, x1, x5, x6 => if x6 < (x0.length : Int) then (if 0 ≤ (IntKind.u64.wrap (Int.tmod x6 8)) then (if (Go.bits .and .u8 (shr .u8 x1 (IntKind.u64.wrap (Int.tmod x6 8))) 1) = 1 then (if 0 ≤ x6 then (if x5.length < 17592186044416 then (laws_fdPick.l0 k x0 x1 (x5 ++ [rd x0 x6]) (wrap64 (x6 + 1))) else (none)) else (none)) else (laws_fdPick.l0 k x0 x1 x5 (wrap64 (x6 + 1)))) else (none)) else (some x5)
def laws_fdPick.f (k : Nat) (l0 : List Int) (a1 : Int) : Option (List Int) := laws_fdPick.l0 k l0 a1 ([] : List Int) 0
theorem laws_fdPick.mono_l : ∀ k, (∀ y0 y1 y2 y3, LeO (laws_fdPick.l0 k y0 y1 y2 y3) (laws_fdPick.l0 (k + 1) y0 y1 y2 y3))
  | 0 => fun _ _ _ _ r h => by simp [laws_fdPick.l0] at h
  | k + 1 => by
    have ih0 := laws_fdPick.mono_l k
    · intro y0 y1 y2 y3
      unfold laws_fdPick.l0
      repeat' first
      | (with_reducible exact ih0 _ _ _ _)
      | (with_reducible exact LeO.refl _)
      | (with_reducible exact LeO.none _)
      | (with_reducible refine LeO.ite ?_ ?_)
      | (with_reducible refine LeO.bind ?_ (fun _ => ?_))
      | exact ih0 _ _ _ _
      | exact LeO.none _
      | refine LeO.ite ?_ ?_
      | refine LeO.bind ?_ (fun _ => ?_)
theorem laws_fdPick.mono : ∀ a0 a1 k, LeO (laws_fdPick.f k a0 a1) (laws_fdPick.f (k + 1) a0 a1) := by
  intro a0 a1 k
  have ih0 := laws_fdPick.mono_l k
  unfold laws_fdPick.f
  repeat' first
      | (with_reducible exact ih0 _ _ _ _)
      | (with_reducible exact LeO.refl _)
      | (with_reducible exact LeO.none _)
      | (with_reducible refine LeO.ite ?_ ?_)
      | (with_reducible refine LeO.bind ?_ (fun _ => ?_))
      | exact ih0 _ _ _ _
      | exact LeO.none _
      | refine LeO.ite ?_ ?_
      | refine LeO.bind ?_ (fun _ => ?_)
set_option maxHeartbeats 8000000 in
set_option maxRecDepth 100000 in
theorem laws_fdPick.calls (k : Nat) (A0 : Option Addr) (c0 : Nat) (l0 : List Int) (a1 : Int) (r : List Int) (w : World) (hr0 : Kd.C (Kd.int .i64) w A0 l0.length l0) (hc0 : l0.length ≤ c0) (h : laws_fdPick.f k l0 a1 = some r) :
    Calls Tryz.prog 4 #[.slice A0 l0.length c0, .int .u8 a1] w fun e w' => ∃ v0_ : Value, e = .returned (v0_) ∧ Kd.R (Kd.int .i64) 3 w' w.heap.size (fun _ => True) v0_ r ∧ Below w.heap.size w w' := by
  have HR0 := Aside0.mk hr0
  have HC0 := Aside0.mk hc0
  clear hr0 hc0
  have HB := Aside0.mk (Below.refl w.heap.size w)
  have H : (laws_fdPick.l0 k l0 a1 ([] : List Int) 0) = some r := h
  clear h
  have H' := Aside0.mk H
  clear H
  go_enter Tryz.func4, Tryz.ntmps4
  go_wp2
  go_loopg [5, 6] k (fun kq v5 v6 w' => ∃ (x5_1 : List Int) (x6_1 : Int), v6 = .int .i64 x6_1 ∧ Aside0 (laws_fdPick.l0 kq l0 a1 x5_1 x6_1 = some r) ∧ Aside0 (kq ≤ k) ∧ Aside0 (Kd.R (Kd.int .i64) 3 w' w.heap.size (fun _ => True) v5 x5_1) ∧ Aside0 (Below w.heap.size w w'))
  case atStart => exact ⟨(([] : List Int)), (0), (by first | rfl | (simp; done) | (simp [*]; done)), H', ⟨Nat.le_refl _⟩, ⟨by first | exact Kd.R_nil _ _ _ _ _ | exact Kd.N_nil _ _ _ _ _ | exact Kd.V_nil _ _ _ _ _ | exact Kd.Q_nil _ _ _ _ _ | exact Kd.S_nil _ _ _ _ _⟩, ⟨by repeat (first | (with_reducible first | exact HB.out | apply below_alloc | apply pw_below_drewN | apply below_drew1) | exact HB.out)⟩⟩
  case round =>
    clear H'
    try clear p2
    obtain ⟨x5_1, x6_1, rfl, HA, HK1, HO_5, HB⟩ := hrel
    cases gk with
    | zero => exact absurd HA.out (by simp [laws_fdPick.l0])
    | succ k1 =>
      have H := HA.out
      clear HA
      simp only [laws_fdPick.l0] at H
      by_cases c3 : x6_1 < (l0.length : Int)
      · rw [if_pos c3] at H
        have c3b0 : decide (x6_1 < (l0.length : Int)) = true := decide_eq_true c3
        clear c3
        obtain ⟨ji4, hji4⟩ : ∃ j_ : Int, (IntKind.u64.wrap (Int.tmod x6_1 8)) = j_ := ⟨_, rfl⟩
        replace H : (if 0 ≤ (ji4) then (if (Go.bits .and .u8 (shr .u8 a1 (ji4)) 1) = 1 then (if 0 ≤ x6_1 then (if x5_1.length < 17592186044416 then (laws_fdPick.l0 k1 l0 a1 (x5_1 ++ [rd l0 x6_1]) (wrap64 (x6_1 + 1))) else (none)) else (none)) else (laws_fdPick.l0 k1 l0 a1 x5_1 (wrap64 (x6_1 + 1)))) else (none)) = some r := by first | (rw [hji4] at H; exact H) | (simp only [hji4] at H ⊢; exact H)
        by_cases c5 : 0 ≤ (ji4)
        · rw [if_pos c5] at H
          have c5b0 := eq_true c5
          have c5b1 : decide (0 ≤ (ji4)) = true := decide_eq_true c5
          clear c5
          obtain ⟨ji6, hji6⟩ : ∃ j_ : Int, (shr .u8 a1 (ji4)) = j_ := ⟨_, rfl⟩
          replace H : (if (Go.bits .and .u8 (ji6) 1) = 1 then (if 0 ≤ x6_1 then (if x5_1.length < 17592186044416 then (laws_fdPick.l0 k1 l0 a1 (x5_1 ++ [rd l0 x6_1]) (wrap64 (x6_1 + 1))) else (none)) else (none)) else (laws_fdPick.l0 k1 l0 a1 x5_1 (wrap64 (x6_1 + 1)))) = some r := by first | (rw [hji6] at H; exact H) | (simp only [hji6] at H ⊢; exact H)
          have hji6_ : (a1 / 2 ^ min (ji4).toNat 8) = ji6 := hji6
          have hji6z : (ji4) ≤ 8 → (a1 / 2 ^ (ji4).toNat) = ji6 := shr_small hji6
          by_cases c7 : (Go.bits .and .u8 (ji6) 1) = 1
          · rw [if_pos c7] at H
            have c7b0 : ((Go.bits .and .u8 (ji6) 1) == 1) = true := beq_iff_eq.mpr c7
            have c7b1 : ((Go.bits .and .u8 (ji6) 1) != 1) = false := bne_eq_false_iff_eq.mpr c7
            clear c7
            by_cases c8 : 0 ≤ x6_1
            · rw [if_pos c8] at H
              have c8b0 : decide (0 ≤ x6_1) = true := decide_eq_true c8
              clear c8
              by_cases c9 : x5_1.length < 17592186044416
              · rw [if_pos c9] at H
                have LMc9 := Aside0.mk c9
                clear c9
                obtain ⟨y102, hy102⟩ : ∃ y_ : List Int, y_ = (x5_1 ++ [rd l0 x6_1]) := ⟨_, rfl⟩
                replace H : (laws_fdPick.l0 k1 l0 a1 y102 (wrap64 (x6_1 + 1))) = some r := by first | (rw [hy102]; with_reducible exact H) | (have H2_ := (Option.bind_some _ _).symm.trans H; rw [hy102]; with_reducible exact H2_) | (have H2_ := (Option.bind_some _ _).symm.trans H; with_reducible exact H2_) | with_reducible exact H | (rw [hy102]; exact H) | exact H
                have Ny102 := Aside0.mk hy102
                clear hy102
                have H' := Aside0.mk H
                clear H
                have p101 : 0 ≤ (x6_1 : Int) := of_decide_eq_true (by first | (with_reducible assumption) | assumption)
                have q101 : x6_1 < (l0.length : Int) := of_decide_eq_true (by first | (with_reducible assumption) | assumption)
                obtain ⟨ad101, e101, hx101_0⟩ := Kd.at_int HR0.out x6_1 p101 q101
                cases e101
                replace hx101_0 := (HB.out.cell (World.block_lt_of_cell? w _ hx101_0)).trans hx101_0
                replace p101 := eq_true p101
                replace q101 := eq_true q101
                go_wp2_with (first | ((with_reducible refine gate_builtin (b := .append) (xs := #[.tmp 20, .tmp 25]) rfl ?_); at_builtin; refine Kd.R_append (Kd.int .i64) (w0 := w) w.heap.size rfl (.tmp 20) (.tmp 25) 22 3 (.int .i64 0) 8 rfl Tryz.underlying22 info3 rfl (by decide) (by omega) u5 x5_1 (rd l0 x6_1) [.int .i64 (rd l0 x6_1)] (fun _ => True) (fun _ => False) rfl rfl ?aP (fun _ hk => hk.elim) ?aF ?aO ?aB ?aS ?aL ?_; (case aP => exact rfl); (case aB => exact (by repeat (first | (with_reducible first | exact HB.out | apply below_alloc | apply pw_below_drewN | apply below_drew1) | exact HB.out))); (case aF => exact (fun _ _ => trivial)); (case aO => exact (by (with_reducible repeat (first | apply Kd.R_alloc | apply Kd.R_drewN | apply Kd.R_drew)); exact HO_5.out)); (case aS => exact (below_size (by repeat (first | (with_reducible first | exact HB.out | apply below_alloc | apply pw_below_drewN | apply below_drew1) | exact HB.out)))); (case aL => have := LMc9.out; omega); intro v103 w10 ho hb hg hat; rw [← Ny102.out] at ho; have n0_ := Aside0.mk (hb); have n1_ := Aside0.mk (ho); clear HB; clear HO_5; have HB := n0_; have HO104 := n1_; clear n0_ n1_; clear ho hb hg hat))
                go_roundg k1
                case measure => have := HK1.out; omega
                case rel => exact ⟨(y102), (wrap64 (x6_1 + 1)), (by first | rfl | (simp; done) | (simp [*]; done)), H', ⟨by have := HK1.out; omega⟩, ⟨by (with_reducible repeat (first | apply Kd.R_alloc | apply Kd.R_drewN | apply Kd.R_drew)); exact HO104.out⟩, ⟨by repeat (first | (with_reducible first | exact HB.out | apply below_alloc | apply pw_below_drewN | apply below_drew1) | exact HB.out)⟩⟩
              · rw [if_neg c9] at H
                exact absurd H (by simp)
            · rw [if_neg c8] at H
              exact absurd H (by simp)
          · rw [if_neg c7] at H
            have c7b0 : ((Go.bits .and .u8 (ji6) 1) == 1) = false := beq_eq_false_iff_ne.mpr c7
            have c7b1 : ((Go.bits .and .u8 (ji6) 1) != 1) = true := bne_iff_ne.mpr c7
            have H' := Aside0.mk H
            clear H
            go_wp2
            go_roundg k1
            case measure => have := HK1.out; omega
            case rel => exact ⟨(x5_1), (wrap64 (x6_1 + 1)), (by first | rfl | (simp; done) | (simp [*]; done)), H', ⟨by have := HK1.out; omega⟩, ⟨by (with_reducible repeat (first | apply Kd.R_alloc | apply Kd.R_drewN | apply Kd.R_drew)); exact HO_5.out⟩, ⟨by repeat (first | (with_reducible first | exact HB.out | apply below_alloc | apply pw_below_drewN | apply below_drew1) | exact HB.out)⟩⟩
        · rw [if_neg c5] at H
          exact absurd H (by simp)
      · rw [if_neg c3] at H
        have c3b0 : decide (x6_1 < (l0.length : Int)) = false := decide_eq_false c3
        clear c3
        obtain rfl := Option.some.inj H
        go_wp2
        go_ret
        exact ⟨_, by first | rfl | (simp [errW_none, errW_some] <;> rfl) | (simp [*, errW_none, errW_some] <;> rfl), by (with_reducible repeat (first | apply Kd.R_alloc | apply Kd.R_drewN | apply Kd.R_drew)); exact HO_5.out, by repeat (first | (with_reducible first | exact HB.out | apply below_alloc | apply pw_below_drewN | apply below_drew1) | exact HB.out)⟩

-- NOT PRINTED: function 90 (sql_sparse_at)

-- NOT PRINTED: function 89 (sql_sparse_Has)

-- NOT PRINTED: function 70 (sql_sparse_Insert)

-- NOT PRINTED: function 94 (sql_sparse_LowerBound)

-- NOT PRINTED: function 95 (bits_TrailingZeros64)

-- NOT PRINTED: function 76 (sql_FastIntSet_Next)

-- NOT PRINTED: function 69 (sql_FastIntSet_toLarge)

-- NOT PRINTED: function 42 (sql_FastIntSet_Add)

/-! ### sql_setVal: function 43 -/
def sql_setVal.f (a0 : Int) : Option (Int) := some (wrap64 (IntKind.u16.wrap (a0 - 1)))
set_option maxHeartbeats 8000000 in
set_option maxRecDepth 100000 in
theorem sql_setVal.calls (a0 : Int) (r : Int) (w : World) (h : sql_setVal.f a0 = some r) :
    Calls Tryz.prog 43 #[.int .u16 a0] w fun e w' => e = .returned (.int .i64 r) ∧ Drawn0 w w' := by
  have H : (some (wrap64 (IntKind.u16.wrap (a0 - 1)))) = some r := h
  clear h
  obtain rfl := Option.some.inj H
  go_enter Tryz.func43, Tryz.ntmps43
  go_wp2
  go_ret
  exact ⟨by first | rfl | (simp; done) | (simp [*]; done), by repeat (first | exact Drawn0.refl _ | apply Drawn0.step)⟩

-- NOT PRINTED: function 17 (sql_ColSet_Add)

-- NOT PRINTED: function 13 (impl_columns)

-- NOT PRINTED: function 85 (sql_sparse_Copy)

-- NOT PRINTED: function 65 (sql_FastIntSet_Copy)

-- NOT PRINTED: function 102 (sql_sparse_UnionWith)

-- NOT PRINTED: function 88 (sql_FastIntSet_UnionWith)

-- NOT PRINTED: function 68 (sql_FastIntSet_Union)

-- NOT PRINTED: function 41 (sql_ColSet_Union)

-- NOT PRINTED: function 35 (sql_EquivSets_Sets)

-- NOT PRINTED: function 83 (sql_sparse_SubsetOf)

/-- A state of type 120 at block g of W; what its slices lead to came in by w0. -/
def IsS120 (w0 W : World) (g : Nat) (f0 : List Int) : Prop := ∃ A0 c0, W.heap[g]? = some (.cells #[.slice A0 f0.length c0] 120 (0, 0)) ∧ w0.heap.size ≤ g ∧ Kd.C (Kd.int .i64) w0 A0 f0.length f0
theorem IsS120.grown {w0 W : World} {g : Nat} {f0 : List Int} {W1 : World} {row : Option Nat} (h : IsS120 w0 W g f0) (hw : W.grownBy W1 row) (hne : some g ≠ row) : IsS120 w0 W1 g f0 := by
  obtain ⟨A0, c0, hb, hg, hr0⟩ := h
  exact ⟨A0, c0, blk_grown hb hw hne, hg, hr0⟩
theorem IsS120.own_neN {w0 W : World} {g : Nat} {f0 : List Int} {α : Type} {d : Kd α} {e : Nat} {base : Nat} {ok : Nat → Prop} {v : Value} {xs : List α} (h : IsS120 w0 W g f0) (ho : Kd.N d e W base ok v xs) (ht : e ≠ 120) : some g ≠ v.ownBlock := by
  obtain ⟨A0, c0, hb, hg, hr0⟩ := h
  exact Kd.N_ne ho hb ht
theorem IsS120.fresh {w0 W : World} {g : Nat} {f0 : List Int} (h : IsS120 w0 W g f0) : ∀ k, W.heap.size ≤ k → k ≠ g := by
  obtain ⟨A0, c0, hb, hg, hr0⟩ := h
  exact Kd.freshB hb
theorem IsS120.kept {w0 W : World} {g : Nat} {f0 : List Int} {W1 : World} {S : Nat → Prop} (h : IsS120 w0 W g f0) (hk : Kept W W1 S) (hne : ¬ S g) : IsS120 w0 W1 g f0 := by
  obtain ⟨A0, c0, hb, hg, hr0⟩ := h
  exact ⟨A0, c0, blk_kept hb hk hne, hg, hr0⟩
theorem IsS120.below {w0 W : World} {g : Nat} {f0 : List Int} {W1 : World} (h : IsS120 w0 W g f0) (hw : Below W.heap.size W W1) : IsS120 w0 W1 g f0 := h.grown (grown_of_below hw none) (by simp)
theorem IsS120.alloc {w0 W : World} {g : Nat} {f0 : List Int} (h : IsS120 w0 W g f0) (o : Obj) : IsS120 w0 (W.alloc o) g f0 := h.below (below_alloc (Below.refl _ _) o)
theorem IsS120.drewN {w0 W : World} {g : Nat} {f0 : List Int} (h : IsS120 w0 W g f0) (m : Nat) : IsS120 w0 (W.drewN m) g f0 := h
theorem IsS120.drew {w0 W : World} {g : Nat} {f0 : List Int} (h : IsS120 w0 W g f0) : IsS120 w0 W.drew g f0 := h
theorem IsS120.at_ {w0 W : World} {g : Nat} {f0 : List Int} {w' : World} {m : Nat} (hq : W.drewN m = w') (h : IsS120 w0 W g f0) : IsS120 w0 w' g f0 := by subst hq; exact IsS120.drewN h m
theorem IsS120.apart {w0 W : World} {g : Nat} {f0 : List Int} {α : Type} {d : Kd α} {e : Nat} {base : Nat} {ok : Nat → Prop} {v : Value} {xs : List α} (h : IsS120 w0 W g f0) (ho : d.R e W base ok v xs) (ht : ∀ q, q ∈ e :: d.E → q ≠ 120) : d.R e W base (fun k => ok k ∧ k ≠ g) v xs := by
  obtain ⟨A0, c0, hb, hg, hr0⟩ := h
  exact Kd.R_types ho hb ht
theorem IsS120.own_ne {w0 W : World} {g : Nat} {f0 : List Int} {α : Type} {d : Kd α} {e : Nat} {base : Nat} {ok : Nat → Prop} {v : Value} {xs : List α} (h : IsS120 w0 W g f0) (ho : d.R e W base ok v xs) (ht : e ≠ 120) : some g ≠ v.ownBlock := by
  obtain ⟨A0, c0, hb, hg, hr0⟩ := h
  exact Kd.R_ne ho hb ht
theorem IsS120.apartQ {w0 W : World} {g : Nat} {f0 : List Int} {α : Type} {d : Kd α} {e : Nat} {base : Nat} {ok : Nat → Prop} {v : Value} {xs : List α} (h : IsS120 w0 W g f0) (ho : d.Q e W base ok v xs) (ht : ∀ q, q ∈ e :: d.E → q ≠ 120) : d.Q e W base (fun k => ok k ∧ k ≠ g) v xs := by
  obtain ⟨A0, c0, hb, hg, hr0⟩ := h
  exact Kd.Q_types ho hb ht
theorem IsS120.own_neQ {w0 W : World} {g : Nat} {f0 : List Int} {α : Type} {d : Kd α} {e : Nat} {base : Nat} {ok : Nat → Prop} {v : Value} {xs : List α} (h : IsS120 w0 W g f0) (ho : d.Q e W base ok v xs) (ht : e ≠ 120) : some g ≠ v.ownBlock := by
  obtain ⟨A0, c0, hb, hg, hr0⟩ := h
  exact Kd.Q_ne ho hb ht
theorem IsS120.apartS {w0 W : World} {g : Nat} {f0 : List Int} {α : Type} {d : Kd α} {e : Nat} {base : Nat} {ok : Nat → Prop} {v : Value} {xs : List α} (h : IsS120 w0 W g f0) (ho : d.S e W base ok v xs) (ht : ∀ q, q ∈ e :: d.E → q ≠ 120) : d.S e W base (fun k => ok k ∧ k ≠ g) v xs := by
  obtain ⟨A0, c0, hb, hg, hr0⟩ := h
  exact Kd.S_types ho hb ht
theorem IsS120.own_neS {w0 W : World} {g : Nat} {f0 : List Int} {α : Type} {d : Kd α} {e : Nat} {base : Nat} {ok : Nat → Prop} {v : Value} {xs : List α} (h : IsS120 w0 W g f0) (ho : d.S e W base ok v xs) (ht : e ≠ 120) : some g ≠ v.ownBlock := by
  obtain ⟨A0, c0, hb, hg, hr0⟩ := h
  exact Kd.S_ne ho hb ht
theorem IsS120.lt {w0 W : World} {g : Nat} {f0 : List Int} (h : IsS120 w0 W g f0) : g < W.heap.size := by
  obtain ⟨A0, c0, hb, hg, hr0⟩ := h
  exact blk_lt hb
theorem IsS120.ge {w0 W : World} {g : Nat} {f0 : List Int} (h : IsS120 w0 W g f0) : w0.heap.size ≤ g := by
  obtain ⟨A0, c0, hb, hg, hr0⟩ := h
  exact hg
theorem IsS120.ne_blk {w0 W : World} {g : Nat} {f0 : List Int} {a : Nat} {cs : Array Value} {t : TypeId} {fr : Nat × Nat} (h : IsS120 w0 W g f0) (hb2 : W.heap[a]? = some (.cells cs t fr)) (ht : t ≠ 120) : g ≠ a := by
  obtain ⟨A0, c0, hb, hg, hr0⟩ := h
  rintro rfl
  rw [hb] at hb2
  injection hb2 with hb2
  injection hb2 with _ ht2
  exact ht ht2.symm
theorem IsS120.far {w0 W : World} {g : Nat} {f0 : List Int} {p : Addr} (h : IsS120 w0 W g f0) (hne : g ≠ p.block) (u : Value) : IsS120 w0 (W.setCell p u) g f0 := by
  obtain ⟨A0, c0, hb, hg, hr0⟩ := h
  exact ⟨A0, c0, blk_far hb hne u, hg, hr0⟩
theorem cellS120_0 {W : World} {g : Nat} {A0 : Option Addr} {c0 : Nat} {f0 : List Int} (h : W.heap[g]? = some (.cells #[.slice A0 f0.length c0] 120 (0, 0))) : W.cell? ⟨g, 0, none⟩ = some (.slice A0 f0.length c0) := (blk_cell h 0).trans rfl
theorem IsS120.new (w0 W : World) (A0 : Option Addr) (c0 : Nat) (f0 : List Int) (hB : Below w0.heap.size w0 W) (hr0 : Kd.C (Kd.int .i64) w0 A0 f0.length f0) : IsS120 w0 (W.alloc (.cells #[.slice A0 f0.length c0] 120)) W.heap.size f0 := ⟨A0, c0, by simpa using heap_alloc_new W _, hB.size, hr0⟩

/-! ### sql_sparse_Min: function 100 -/
def sql_sparse_Min.f (s0_0 : List Int) : Option (Int) := if (s0_0.length : Int) = 0 then (some 9223372036854775807) else (if 0 < (s0_0.length : Int) then (some (rd s0_0 0)) else (none))
set_option maxHeartbeats 8000000 in
set_option maxRecDepth 100000 in
theorem sql_sparse_Min.calls (g : Nat) (s0_0 : List Int) (r : Int) (w0 w : World) (hI : IsS120 w0 w g s0_0) (hB : Below w0.heap.size w0 w) (h : sql_sparse_Min.f s0_0 = some r) :
    Calls Tryz.prog 100 #[.pointer (some ⟨g, 0, none⟩)] w fun e w' => e = .returned (.int .i64 r) ∧ IsS120 w0 w' g s0_0 ∧ Below w0.heap.size w0 w' ∧ KeepBut w w' g none := by
  have HI0 := Aside0.mk hI
  have HK := Aside0.mk (KeepBut.refl w g none)
  have HL := Aside0.mk hB.size
  clear hI
  have HW0 := Aside0.mk hB.size
  have HB := Aside0.mk hB
  clear hB
  have H : (if (s0_0.length : Int) = 0 then (some 9223372036854775807) else (if 0 < (s0_0.length : Int) then (some (rd s0_0 0)) else (none))) = some r := h
  clear h
  by_cases c2 : (s0_0.length : Int) = 0
  · rw [if_pos c2] at H
    have c2b0 : ((s0_0.length : Int) == 0) = true := beq_iff_eq.mpr c2
    have c2b1 : ((s0_0.length : Int) != 0) = false := bne_eq_false_iff_eq.mpr c2
    clear c2
    obtain rfl := Option.some.inj H
    obtain ⟨ASz3_0, cSz3_0, HGz3, hgz3, HSz3_0⟩ := HI0.out
    have hcz3_0 := cellS120_0 HGz3
    clear HGz3 hgz3
    go_enter Tryz.func100, Tryz.ntmps100
    go_wp2
    go_ret
    exact ⟨by first | rfl | (simp [errW_none, errW_some] <;> rfl) | (simp [*, errW_none, errW_some] <;> rfl), by repeat (first | (with_reducible first | exact HI0.out | apply IsS120.alloc | apply IsS120.drewN | apply IsS120.drew) | exact HI0.out), by repeat (first | (with_reducible first | exact HB.out | apply below_alloc | apply pw_below_drewN | apply below_drew1 | refine below_set ?_ (IsS120.ge HI0.out)) | exact HB.out), by repeat (first | (with_reducible first | exact HK.out | apply KeepBut.set_ | apply keep_drewN | apply keep_drew | apply keep_alloc) | exact HK.out)⟩
  · rw [if_neg c2] at H
    have c2b0 : ((s0_0.length : Int) == 0) = false := beq_eq_false_iff_ne.mpr c2
    have c2b1 : ((s0_0.length : Int) != 0) = true := bne_iff_ne.mpr c2
    have c2b2 : ¬ (s0_0 = []) := fun h_ => c2 (by rw [h_]; rfl)
    by_cases c4 : 0 < (s0_0.length : Int)
    · rw [if_pos c4] at H
      have c4b0 : decide (0 < (s0_0.length : Int)) = true := decide_eq_true c4
      have c4b1 : decide (0 < s0_0.length) = true := decide_eq_true (by omega)
      clear c4
      obtain rfl := Option.some.inj H
      obtain ⟨ASz5_0, cSz5_0, HGz5, hgz5, HSz5_0⟩ := HI0.out
      have hcz5_0 := cellS120_0 HGz5
      clear HGz5 hgz5
      have p106 : 0 ≤ (0 : Int) := (by omega)
      have q106 : 0 < (s0_0.length : Int) := of_decide_eq_true (by first | (with_reducible assumption) | assumption)
      obtain ⟨ad106, e106, hx106_0⟩ := Kd.at_int HSz5_0 0 p106 q106
      cases e106
      have qi106 : (0 < s0_0.length) = True := eq_true (by omega)
      (try rw [show ((0 : Int)).toNat = 0 from rfl] at hx106_0)
      (try rw [Addr.add_zero'] at hx106_0)
      replace hx106_0 := pw_cell_below HB.out hx106_0
      replace p106 := eq_true p106
      replace q106 := eq_true q106
      go_enter Tryz.func100, Tryz.ntmps100
      go_wp2
      go_ret
      exact ⟨by first | rfl | (simp [errW_none, errW_some] <;> rfl) | (simp [*, errW_none, errW_some] <;> rfl), by repeat (first | (with_reducible first | exact HI0.out | apply IsS120.alloc | apply IsS120.drewN | apply IsS120.drew) | exact HI0.out), by repeat (first | (with_reducible first | exact HB.out | apply below_alloc | apply pw_below_drewN | apply below_drew1 | refine below_set ?_ (IsS120.ge HI0.out)) | exact HB.out), by repeat (first | (with_reducible first | exact HK.out | apply KeepBut.set_ | apply keep_drewN | apply keep_drew | apply keep_alloc) | exact HK.out)⟩
    · rw [if_neg c4] at H
      exact absurd H (by simp)

/-! ### sql_sparse_Max: function 101 -/
def sql_sparse_Max.f (s0_0 : List Int) : Option (Int) := if (s0_0.length : Int) = 0 then (some (-9223372036854775808)) else (if 0 ≤ (wrap64 ((s0_0.length : Int) - 1)) then (if (wrap64 ((s0_0.length : Int) - 1)) < (s0_0.length : Int) then (some (rd s0_0 (wrap64 ((s0_0.length : Int) - 1)))) else (none)) else (none))
set_option maxHeartbeats 8000000 in
set_option maxRecDepth 100000 in
theorem sql_sparse_Max.calls (g : Nat) (s0_0 : List Int) (r : Int) (w0 w : World) (hI : IsS120 w0 w g s0_0) (hB : Below w0.heap.size w0 w) (h : sql_sparse_Max.f s0_0 = some r) :
    Calls Tryz.prog 101 #[.pointer (some ⟨g, 0, none⟩)] w fun e w' => e = .returned (.int .i64 r) ∧ IsS120 w0 w' g s0_0 ∧ Below w0.heap.size w0 w' ∧ KeepBut w w' g none := by
  have HI0 := Aside0.mk hI
  have HK := Aside0.mk (KeepBut.refl w g none)
  have HL := Aside0.mk hB.size
  clear hI
  have HW0 := Aside0.mk hB.size
  have HB := Aside0.mk hB
  clear hB
  have H : (if (s0_0.length : Int) = 0 then (some (-9223372036854775808)) else (if 0 ≤ (wrap64 ((s0_0.length : Int) - 1)) then (if (wrap64 ((s0_0.length : Int) - 1)) < (s0_0.length : Int) then (some (rd s0_0 (wrap64 ((s0_0.length : Int) - 1)))) else (none)) else (none))) = some r := h
  clear h
  by_cases c2 : (s0_0.length : Int) = 0
  · rw [if_pos c2] at H
    have c2b0 : ((s0_0.length : Int) == 0) = true := beq_iff_eq.mpr c2
    have c2b1 : ((s0_0.length : Int) != 0) = false := bne_eq_false_iff_eq.mpr c2
    clear c2
    obtain rfl := Option.some.inj H
    obtain ⟨ASz3_0, cSz3_0, HGz3, hgz3, HSz3_0⟩ := HI0.out
    have hcz3_0 := cellS120_0 HGz3
    clear HGz3 hgz3
    go_enter Tryz.func101, Tryz.ntmps101
    go_wp2
    repeat (go_quiet (fail); try go_wp2)
    go_ret
    exact ⟨by first | rfl | (simp [errW_none, errW_some] <;> rfl) | (simp [*, errW_none, errW_some] <;> rfl), by repeat (first | (with_reducible first | exact HI0.out | apply IsS120.alloc | apply IsS120.drewN | apply IsS120.drew) | exact HI0.out), by repeat (first | (with_reducible first | exact HB.out | apply below_alloc | apply pw_below_drewN | apply below_drew1 | refine below_set ?_ (IsS120.ge HI0.out)) | exact HB.out), by repeat (first | (with_reducible first | exact HK.out | apply KeepBut.set_ | apply keep_drewN | apply keep_drew | apply keep_alloc) | exact HK.out)⟩
  · rw [if_neg c2] at H
    have c2b0 : ((s0_0.length : Int) == 0) = false := beq_eq_false_iff_ne.mpr c2
    have c2b1 : ((s0_0.length : Int) != 0) = true := bne_iff_ne.mpr c2
    have c2b2 : ¬ (s0_0 = []) := fun h_ => c2 (by rw [h_]; rfl)
    obtain ⟨ji4, hji4⟩ : ∃ j_ : Int, (wrap64 ((s0_0.length : Int) - 1)) = j_ := ⟨_, rfl⟩
    replace H : (if 0 ≤ (ji4) then (if (ji4) < (s0_0.length : Int) then (some (rd s0_0 (ji4))) else (none)) else (none)) = some r := by first | (rw [hji4] at H; exact H) | (simp only [hji4] at H ⊢; exact H)
    have hji4w : (IntKind.i64.wrap ((s0_0.length : Int) - 1)) = ji4 := (i64_w _).trans hji4
    by_cases c5 : 0 ≤ (ji4)
    · rw [if_pos c5] at H
      have c5b0 : decide (0 ≤ (ji4)) = true := decide_eq_true c5
      clear c5
      by_cases c6 : (ji4) < (s0_0.length : Int)
      · rw [if_pos c6] at H
        have c6b0 : decide ((ji4) < (s0_0.length : Int)) = true := decide_eq_true c6
        clear c6
        obtain rfl := Option.some.inj H
        obtain ⟨ASz7_0, cSz7_0, HGz7, hgz7, HSz7_0⟩ := HI0.out
        have hcz7_0 := cellS120_0 HGz7
        clear HGz7 hgz7
        have p107 : 0 ≤ ((ji4) : Int) := of_decide_eq_true (by first | (with_reducible assumption) | assumption)
        have q107 : (ji4) < (s0_0.length : Int) := of_decide_eq_true (by first | (with_reducible assumption) | assumption)
        obtain ⟨ad107, e107, hx107_0⟩ := Kd.at_int HSz7_0 (ji4) p107 q107
        cases e107
        replace hx107_0 := pw_cell_below HB.out hx107_0
        replace p107 := eq_true p107
        replace q107 := eq_true q107
        go_enter Tryz.func101, Tryz.ntmps101
        go_wp2
        repeat (go_quiet (fail); try go_wp2)
        go_ret
        exact ⟨by first | rfl | (simp [errW_none, errW_some] <;> rfl) | (simp only [← hji4]; first | rfl | (simp [errW_none, errW_some] <;> rfl)) | (simp [*, errW_none, errW_some] <;> rfl), by repeat (first | (with_reducible first | exact HI0.out | apply IsS120.alloc | apply IsS120.drewN | apply IsS120.drew) | exact HI0.out), by repeat (first | (with_reducible first | exact HB.out | apply below_alloc | apply pw_below_drewN | apply below_drew1 | refine below_set ?_ (IsS120.ge HI0.out)) | exact HB.out), by repeat (first | (with_reducible first | exact HK.out | apply KeepBut.set_ | apply keep_drewN | apply keep_drew | apply keep_alloc) | exact HK.out)⟩
      · rw [if_neg c6] at H
        exact absurd H (by simp)
    · rw [if_neg c5] at H
      exact absurd H (by simp)

-- NOT PRINTED: function 84 (sql_FastIntSet_largeToSmall)

-- NOT PRINTED: function 64 (sql_FastIntSet_SubsetOf)

-- NOT PRINTED: function 37 (sql_ColSet_SubsetOf)

-- NOT PRINTED: function 38 (sql_ColSet_Copy)

-- NOT PRINTED: function 86 (sql_sparse_Equals)

-- NOT PRINTED: function 66 (sql_FastIntSet_Equals)

-- NOT PRINTED: function 39 (sql_ColSet_Equals)

-- NOT PRINTED: function 87 (sql_sparse_Intersects)

-- NOT PRINTED: function 67 (sql_FastIntSet_Intersects)

-- NOT PRINTED: function 40 (sql_ColSet_Intersects)

-- NOT PRINTED: function 16 (sql_FuncDepSet_inClosureOf)

/-! ### sql_sparse_IsEmpty: function 92 -/
def sql_sparse_IsEmpty.f (s0_0 : List Int) : Option (Bool) := some ((s0_0.length : Int) == 0)
set_option maxHeartbeats 8000000 in
set_option maxRecDepth 100000 in
theorem sql_sparse_IsEmpty.calls (g : Nat) (s0_0 : List Int) (r : Bool) (w0 w : World) (hI : IsS120 w0 w g s0_0) (hB : Below w0.heap.size w0 w) (h : sql_sparse_IsEmpty.f s0_0 = some r) :
    Calls Tryz.prog 92 #[.pointer (some ⟨g, 0, none⟩)] w fun e w' => e = .returned (.bool r) ∧ IsS120 w0 w' g s0_0 ∧ Below w0.heap.size w0 w' ∧ KeepBut w w' g none := by
  have HI0 := Aside0.mk hI
  have HK := Aside0.mk (KeepBut.refl w g none)
  have HL := Aside0.mk hB.size
  clear hI
  have HW0 := Aside0.mk hB.size
  have HB := Aside0.mk hB
  clear hB
  have H : (some ((s0_0.length : Int) == 0)) = some r := h
  clear h
  obtain rfl := Option.some.inj H
  obtain ⟨ASz2_0, cSz2_0, HGz2, hgz2, HSz2_0⟩ := HI0.out
  have hcz2_0 := cellS120_0 HGz2
  clear HGz2 hgz2
  go_enter Tryz.func92, Tryz.ntmps92
  go_wp2
  go_ret
  exact ⟨by first | rfl | (simp [errW_none, errW_some] <;> rfl) | (simp [*, errW_none, errW_some] <;> rfl), by repeat (first | (with_reducible first | exact HI0.out | apply IsS120.alloc | apply IsS120.drewN | apply IsS120.drew) | exact HI0.out), by repeat (first | (with_reducible first | exact HB.out | apply below_alloc | apply pw_below_drewN | apply below_drew1 | refine below_set ?_ (IsS120.ge HI0.out)) | exact HB.out), by repeat (first | (with_reducible first | exact HK.out | apply KeepBut.set_ | apply keep_drewN | apply keep_drew | apply keep_alloc) | exact HK.out)⟩

-- NOT PRINTED: function 74 (sql_FastIntSet_Empty)

-- NOT PRINTED: function 54 (sql_ColSet_Empty)

/-! ### sql_retVal: function 77 -/
def sql_retVal.f (a0 : Int) : Option (Int) := some (IntKind.u16.wrap (wrap64 (a0 + 1)))
set_option maxHeartbeats 8000000 in
set_option maxRecDepth 100000 in
theorem sql_retVal.calls (a0 : Int) (r : Int) (w : World) (h : sql_retVal.f a0 = some r) :
    Calls Tryz.prog 77 #[.int .i64 a0] w fun e w' => e = .returned (.int .u16 r) ∧ Drawn0 w w' := by
  have H : (some (IntKind.u16.wrap (wrap64 (a0 + 1)))) = some r := h
  clear h
  obtain rfl := Option.some.inj H
  go_enter Tryz.func77, Tryz.ntmps77
  go_wp2
  go_ret
  exact ⟨by first | rfl | (simp; done) | (simp [*]; done), by repeat (first | exact Drawn0.refl _ | apply Drawn0.step)⟩

-- NOT PRINTED: function 56 (sql_ColSet_Next)

-- NOT PRINTED: function 105 (sql_sparse_Remove)

-- NOT PRINTED: function 98 (sql_FastIntSet_Remove)

-- NOT PRINTED: function 79 (sql_ColSet_Remove)

-- NOT PRINTED: function 99 (sql_FastIntSet_Contains)

-- NOT PRINTED: function 80 (sql_ColSet_Contains)

-- NOT PRINTED: function 60 (sql_FuncDepSet_simplifyCols)

-- NOT PRINTED: function 44 (sql_FuncDepSet_AddNotNullable)

/-! ### bits_OnesCount64: function 96 -/
def bits_OnesCount64.f (a0 : Int) : Option (Int) := some (Go.bits .and .i64 (wrap64 (IntKind.u64.wrap ((IntKind.u64.wrap ((IntKind.u64.wrap ((Go.bits .and .u64 (IntKind.u64.wrap (((IntKind.u64.wrap ((Go.bits .and .u64 ((IntKind.u64.wrap ((Go.bits .and .u64 (a0 / 2) 6148914691236517205) + (Go.bits .and .u64 a0 6148914691236517205))) / 4) 3689348814741910323) + (Go.bits .and .u64 (IntKind.u64.wrap ((Go.bits .and .u64 (a0 / 2) 6148914691236517205) + (Go.bits .and .u64 a0 6148914691236517205))) 3689348814741910323))) / 16) + (IntKind.u64.wrap ((Go.bits .and .u64 ((IntKind.u64.wrap ((Go.bits .and .u64 (a0 / 2) 6148914691236517205) + (Go.bits .and .u64 a0 6148914691236517205))) / 4) 3689348814741910323) + (Go.bits .and .u64 (IntKind.u64.wrap ((Go.bits .and .u64 (a0 / 2) 6148914691236517205) + (Go.bits .and .u64 a0 6148914691236517205))) 3689348814741910323))))) 1085102592571150095) + ((Go.bits .and .u64 (IntKind.u64.wrap (((IntKind.u64.wrap ((Go.bits .and .u64 ((IntKind.u64.wrap ((Go.bits .and .u64 (a0 / 2) 6148914691236517205) + (Go.bits .and .u64 a0 6148914691236517205))) / 4) 3689348814741910323) + (Go.bits .and .u64 (IntKind.u64.wrap ((Go.bits .and .u64 (a0 / 2) 6148914691236517205) + (Go.bits .and .u64 a0 6148914691236517205))) 3689348814741910323))) / 16) + (IntKind.u64.wrap ((Go.bits .and .u64 ((IntKind.u64.wrap ((Go.bits .and .u64 (a0 / 2) 6148914691236517205) + (Go.bits .and .u64 a0 6148914691236517205))) / 4) 3689348814741910323) + (Go.bits .and .u64 (IntKind.u64.wrap ((Go.bits .and .u64 (a0 / 2) 6148914691236517205) + (Go.bits .and .u64 a0 6148914691236517205))) 3689348814741910323))))) 1085102592571150095) / 256))) + ((IntKind.u64.wrap ((Go.bits .and .u64 (IntKind.u64.wrap (((IntKind.u64.wrap ((Go.bits .and .u64 ((IntKind.u64.wrap ((Go.bits .and .u64 (a0 / 2) 6148914691236517205) + (Go.bits .and .u64 a0 6148914691236517205))) / 4) 3689348814741910323) + (Go.bits .and .u64 (IntKind.u64.wrap ((Go.bits .and .u64 (a0 / 2) 6148914691236517205) + (Go.bits .and .u64 a0 6148914691236517205))) 3689348814741910323))) / 16) + (IntKind.u64.wrap ((Go.bits .and .u64 ((IntKind.u64.wrap ((Go.bits .and .u64 (a0 / 2) 6148914691236517205) + (Go.bits .and .u64 a0 6148914691236517205))) / 4) 3689348814741910323) + (Go.bits .and .u64 (IntKind.u64.wrap ((Go.bits .and .u64 (a0 / 2) 6148914691236517205) + (Go.bits .and .u64 a0 6148914691236517205))) 3689348814741910323))))) 1085102592571150095) + ((Go.bits .and .u64 (IntKind.u64.wrap (((IntKind.u64.wrap ((Go.bits .and .u64 ((IntKind.u64.wrap ((Go.bits .and .u64 (a0 / 2) 6148914691236517205) + (Go.bits .and .u64 a0 6148914691236517205))) / 4) 3689348814741910323) + (Go.bits .and .u64 (IntKind.u64.wrap ((Go.bits .and .u64 (a0 / 2) 6148914691236517205) + (Go.bits .and .u64 a0 6148914691236517205))) 3689348814741910323))) / 16) + (IntKind.u64.wrap ((Go.bits .and .u64 ((IntKind.u64.wrap ((Go.bits .and .u64 (a0 / 2) 6148914691236517205) + (Go.bits .and .u64 a0 6148914691236517205))) / 4) 3689348814741910323) + (Go.bits .and .u64 (IntKind.u64.wrap ((Go.bits .and .u64 (a0 / 2) 6148914691236517205) + (Go.bits .and .u64 a0 6148914691236517205))) 3689348814741910323))))) 1085102592571150095) / 256))) / 65536))) + ((IntKind.u64.wrap ((IntKind.u64.wrap ((Go.bits .and .u64 (IntKind.u64.wrap (((IntKind.u64.wrap ((Go.bits .and .u64 ((IntKind.u64.wrap ((Go.bits .and .u64 (a0 / 2) 6148914691236517205) + (Go.bits .and .u64 a0 6148914691236517205))) / 4) 3689348814741910323) + (Go.bits .and .u64 (IntKind.u64.wrap ((Go.bits .and .u64 (a0 / 2) 6148914691236517205) + (Go.bits .and .u64 a0 6148914691236517205))) 3689348814741910323))) / 16) + (IntKind.u64.wrap ((Go.bits .and .u64 ((IntKind.u64.wrap ((Go.bits .and .u64 (a0 / 2) 6148914691236517205) + (Go.bits .and .u64 a0 6148914691236517205))) / 4) 3689348814741910323) + (Go.bits .and .u64 (IntKind.u64.wrap ((Go.bits .and .u64 (a0 / 2) 6148914691236517205) + (Go.bits .and .u64 a0 6148914691236517205))) 3689348814741910323))))) 1085102592571150095) + ((Go.bits .and .u64 (IntKind.u64.wrap (((IntKind.u64.wrap ((Go.bits .and .u64 ((IntKind.u64.wrap ((Go.bits .and .u64 (a0 / 2) 6148914691236517205) + (Go.bits .and .u64 a0 6148914691236517205))) / 4) 3689348814741910323) + (Go.bits .and .u64 (IntKind.u64.wrap ((Go.bits .and .u64 (a0 / 2) 6148914691236517205) + (Go.bits .and .u64 a0 6148914691236517205))) 3689348814741910323))) / 16) + (IntKind.u64.wrap ((Go.bits .and .u64 ((IntKind.u64.wrap ((Go.bits .and .u64 (a0 / 2) 6148914691236517205) + (Go.bits .and .u64 a0 6148914691236517205))) / 4) 3689348814741910323) + (Go.bits .and .u64 (IntKind.u64.wrap ((Go.bits .and .u64 (a0 / 2) 6148914691236517205) + (Go.bits .and .u64 a0 6148914691236517205))) 3689348814741910323))))) 1085102592571150095) / 256))) + ((IntKind.u64.wrap ((Go.bits .and .u64 (IntKind.u64.wrap (((IntKind.u64.wrap ((Go.bits .and .u64 ((IntKind.u64.wrap ((Go.bits .and .u64 (a0 / 2) 6148914691236517205) + (Go.bits .and .u64 a0 6148914691236517205))) / 4) 3689348814741910323) + (Go.bits .and .u64 (IntKind.u64.wrap ((Go.bits .and .u64 (a0 / 2) 6148914691236517205) + (Go.bits .and .u64 a0 6148914691236517205))) 3689348814741910323))) / 16) + (IntKind.u64.wrap ((Go.bits .and .u64 ((IntKind.u64.wrap ((Go.bits .and .u64 (a0 / 2) 6148914691236517205) + (Go.bits .and .u64 a0 6148914691236517205))) / 4) 3689348814741910323) + (Go.bits .and .u64 (IntKind.u64.wrap ((Go.bits .and .u64 (a0 / 2) 6148914691236517205) + (Go.bits .and .u64 a0 6148914691236517205))) 3689348814741910323))))) 1085102592571150095) + ((Go.bits .and .u64 (IntKind.u64.wrap (((IntKind.u64.wrap ((Go.bits .and .u64 ((IntKind.u64.wrap ((Go.bits .and .u64 (a0 / 2) 6148914691236517205) + (Go.bits .and .u64 a0 6148914691236517205))) / 4) 3689348814741910323) + (Go.bits .and .u64 (IntKind.u64.wrap ((Go.bits .and .u64 (a0 / 2) 6148914691236517205) + (Go.bits .and .u64 a0 6148914691236517205))) 3689348814741910323))) / 16) + (IntKind.u64.wrap ((Go.bits .and .u64 ((IntKind.u64.wrap ((Go.bits .and .u64 (a0 / 2) 6148914691236517205) + (Go.bits .and .u64 a0 6148914691236517205))) / 4) 3689348814741910323) + (Go.bits .and .u64 (IntKind.u64.wrap ((Go.bits .and .u64 (a0 / 2) 6148914691236517205) + (Go.bits .and .u64 a0 6148914691236517205))) 3689348814741910323))))) 1085102592571150095) / 256))) / 65536))) / 4294967296)))) 127)
set_option maxHeartbeats 8000000 in
set_option maxRecDepth 100000 in
theorem bits_OnesCount64.calls (a0 : Int) (r : Int) (w : World) (h : bits_OnesCount64.f a0 = some r) :
    Calls Tryz.prog 96 #[.int .u64 a0] w fun e w' => e = .returned (.int .i64 r) ∧ Drawn0 w w' := by
  have H : (some (Go.bits .and .i64 (wrap64 (IntKind.u64.wrap ((IntKind.u64.wrap ((IntKind.u64.wrap ((Go.bits .and .u64 (IntKind.u64.wrap (((IntKind.u64.wrap ((Go.bits .and .u64 ((IntKind.u64.wrap ((Go.bits .and .u64 (a0 / 2) 6148914691236517205) + (Go.bits .and .u64 a0 6148914691236517205))) / 4) 3689348814741910323) + (Go.bits .and .u64 (IntKind.u64.wrap ((Go.bits .and .u64 (a0 / 2) 6148914691236517205) + (Go.bits .and .u64 a0 6148914691236517205))) 3689348814741910323))) / 16) + (IntKind.u64.wrap ((Go.bits .and .u64 ((IntKind.u64.wrap ((Go.bits .and .u64 (a0 / 2) 6148914691236517205) + (Go.bits .and .u64 a0 6148914691236517205))) / 4) 3689348814741910323) + (Go.bits .and .u64 (IntKind.u64.wrap ((Go.bits .and .u64 (a0 / 2) 6148914691236517205) + (Go.bits .and .u64 a0 6148914691236517205))) 3689348814741910323))))) 1085102592571150095) + ((Go.bits .and .u64 (IntKind.u64.wrap (((IntKind.u64.wrap ((Go.bits .and .u64 ((IntKind.u64.wrap ((Go.bits .and .u64 (a0 / 2) 6148914691236517205) + (Go.bits .and .u64 a0 6148914691236517205))) / 4) 3689348814741910323) + (Go.bits .and .u64 (IntKind.u64.wrap ((Go.bits .and .u64 (a0 / 2) 6148914691236517205) + (Go.bits .and .u64 a0 6148914691236517205))) 3689348814741910323))) / 16) + (IntKind.u64.wrap ((Go.bits .and .u64 ((IntKind.u64.wrap ((Go.bits .and .u64 (a0 / 2) 6148914691236517205) + (Go.bits .and .u64 a0 6148914691236517205))) / 4) 3689348814741910323) + (Go.bits .and .u64 (IntKind.u64.wrap ((Go.bits .and .u64 (a0 / 2) 6148914691236517205) + (Go.bits .and .u64 a0 6148914691236517205))) 3689348814741910323))))) 1085102592571150095) / 256))) + ((IntKind.u64.wrap ((Go.bits .and .u64 (IntKind.u64.wrap (((IntKind.u64.wrap ((Go.bits .and .u64 ((IntKind.u64.wrap ((Go.bits .and .u64 (a0 / 2) 6148914691236517205) + (Go.bits .and .u64 a0 6148914691236517205))) / 4) 3689348814741910323) + (Go.bits .and .u64 (IntKind.u64.wrap ((Go.bits .and .u64 (a0 / 2) 6148914691236517205) + (Go.bits .and .u64 a0 6148914691236517205))) 3689348814741910323))) / 16) + (IntKind.u64.wrap ((Go.bits .and .u64 ((IntKind.u64.wrap ((Go.bits .and .u64 (a0 / 2) 6148914691236517205) + (Go.bits .and .u64 a0 6148914691236517205))) / 4) 3689348814741910323) + (Go.bits .and .u64 (IntKind.u64.wrap ((Go.bits .and .u64 (a0 / 2) 6148914691236517205) + (Go.bits .and .u64 a0 6148914691236517205))) 3689348814741910323))))) 1085102592571150095) + ((Go.bits .and .u64 (IntKind.u64.wrap (((IntKind.u64.wrap ((Go.bits .and .u64 ((IntKind.u64.wrap ((Go.bits .and .u64 (a0 / 2) 6148914691236517205) + (Go.bits .and .u64 a0 6148914691236517205))) / 4) 3689348814741910323) + (Go.bits .and .u64 (IntKind.u64.wrap ((Go.bits .and .u64 (a0 / 2) 6148914691236517205) + (Go.bits .and .u64 a0 6148914691236517205))) 3689348814741910323))) / 16) + (IntKind.u64.wrap ((Go.bits .and .u64 ((IntKind.u64.wrap ((Go.bits .and .u64 (a0 / 2) 6148914691236517205) + (Go.bits .and .u64 a0 6148914691236517205))) / 4) 3689348814741910323) + (Go.bits .and .u64 (IntKind.u64.wrap ((Go.bits .and .u64 (a0 / 2) 6148914691236517205) + (Go.bits .and .u64 a0 6148914691236517205))) 3689348814741910323))))) 1085102592571150095) / 256))) / 65536))) + ((IntKind.u64.wrap ((IntKind.u64.wrap ((Go.bits .and .u64 (IntKind.u64.wrap (((IntKind.u64.wrap ((Go.bits .and .u64 ((IntKind.u64.wrap ((Go.bits .and .u64 (a0 / 2) 6148914691236517205) + (Go.bits .and .u64 a0 6148914691236517205))) / 4) 3689348814741910323) + (Go.bits .and .u64 (IntKind.u64.wrap ((Go.bits .and .u64 (a0 / 2) 6148914691236517205) + (Go.bits .and .u64 a0 6148914691236517205))) 3689348814741910323))) / 16) + (IntKind.u64.wrap ((Go.bits .and .u64 ((IntKind.u64.wrap ((Go.bits .and .u64 (a0 / 2) 6148914691236517205) + (Go.bits .and .u64 a0 6148914691236517205))) / 4) 3689348814741910323) + (Go.bits .and .u64 (IntKind.u64.wrap ((Go.bits .and .u64 (a0 / 2) 6148914691236517205) + (Go.bits .and .u64 a0 6148914691236517205))) 3689348814741910323))))) 1085102592571150095) + ((Go.bits .and .u64 (IntKind.u64.wrap (((IntKind.u64.wrap ((Go.bits .and .u64 ((IntKind.u64.wrap ((Go.bits .and .u64 (a0 / 2) 6148914691236517205) + (Go.bits .and .u64 a0 6148914691236517205))) / 4) 3689348814741910323) + (Go.bits .and .u64 (IntKind.u64.wrap ((Go.bits .and .u64 (a0 / 2) 6148914691236517205) + (Go.bits .and .u64 a0 6148914691236517205))) 3689348814741910323))) / 16) + (IntKind.u64.wrap ((Go.bits .and .u64 ((IntKind.u64.wrap ((Go.bits .and .u64 (a0 / 2) 6148914691236517205) + (Go.bits .and .u64 a0 6148914691236517205))) / 4) 3689348814741910323) + (Go.bits .and .u64 (IntKind.u64.wrap ((Go.bits .and .u64 (a0 / 2) 6148914691236517205) + (Go.bits .and .u64 a0 6148914691236517205))) 3689348814741910323))))) 1085102592571150095) / 256))) + ((IntKind.u64.wrap ((Go.bits .and .u64 (IntKind.u64.wrap (((IntKind.u64.wrap ((Go.bits .and .u64 ((IntKind.u64.wrap ((Go.bits .and .u64 (a0 / 2) 6148914691236517205) + (Go.bits .and .u64 a0 6148914691236517205))) / 4) 3689348814741910323) + (Go.bits .and .u64 (IntKind.u64.wrap ((Go.bits .and .u64 (a0 / 2) 6148914691236517205) + (Go.bits .and .u64 a0 6148914691236517205))) 3689348814741910323))) / 16) + (IntKind.u64.wrap ((Go.bits .and .u64 ((IntKind.u64.wrap ((Go.bits .and .u64 (a0 / 2) 6148914691236517205) + (Go.bits .and .u64 a0 6148914691236517205))) / 4) 3689348814741910323) + (Go.bits .and .u64 (IntKind.u64.wrap ((Go.bits .and .u64 (a0 / 2) 6148914691236517205) + (Go.bits .and .u64 a0 6148914691236517205))) 3689348814741910323))))) 1085102592571150095) + ((Go.bits .and .u64 (IntKind.u64.wrap (((IntKind.u64.wrap ((Go.bits .and .u64 ((IntKind.u64.wrap ((Go.bits .and .u64 (a0 / 2) 6148914691236517205) + (Go.bits .and .u64 a0 6148914691236517205))) / 4) 3689348814741910323) + (Go.bits .and .u64 (IntKind.u64.wrap ((Go.bits .and .u64 (a0 / 2) 6148914691236517205) + (Go.bits .and .u64 a0 6148914691236517205))) 3689348814741910323))) / 16) + (IntKind.u64.wrap ((Go.bits .and .u64 ((IntKind.u64.wrap ((Go.bits .and .u64 (a0 / 2) 6148914691236517205) + (Go.bits .and .u64 a0 6148914691236517205))) / 4) 3689348814741910323) + (Go.bits .and .u64 (IntKind.u64.wrap ((Go.bits .and .u64 (a0 / 2) 6148914691236517205) + (Go.bits .and .u64 a0 6148914691236517205))) 3689348814741910323))))) 1085102592571150095) / 256))) / 65536))) / 4294967296)))) 127)) = some r := h
  clear h
  obtain rfl := Option.some.inj H
  go_enter Tryz.func96, Tryz.ntmps96
  go_wp2
  go_ret
  exact ⟨by first | rfl | (simp; done) | (simp [*]; done), by repeat (first | exact Drawn0.refl _ | apply Drawn0.step)⟩

/-! ### sql_sparse_Len: function 97 -/
def sql_sparse_Len.f (s0_0 : List Int) : Option (Int) := some (s0_0.length : Int)
set_option maxHeartbeats 8000000 in
set_option maxRecDepth 100000 in
theorem sql_sparse_Len.calls (g : Nat) (s0_0 : List Int) (r : Int) (w0 w : World) (hI : IsS120 w0 w g s0_0) (hB : Below w0.heap.size w0 w) (h : sql_sparse_Len.f s0_0 = some r) :
    Calls Tryz.prog 97 #[.pointer (some ⟨g, 0, none⟩)] w fun e w' => e = .returned (.int .i64 r) ∧ IsS120 w0 w' g s0_0 ∧ Below w0.heap.size w0 w' ∧ KeepBut w w' g none := by
  have HI0 := Aside0.mk hI
  have HK := Aside0.mk (KeepBut.refl w g none)
  have HL := Aside0.mk hB.size
  clear hI
  have HW0 := Aside0.mk hB.size
  have HB := Aside0.mk hB
  clear hB
  have H : (some (s0_0.length : Int)) = some r := h
  clear h
  obtain rfl := Option.some.inj H
  obtain ⟨ASz2_0, cSz2_0, HGz2, hgz2, HSz2_0⟩ := HI0.out
  have hcz2_0 := cellS120_0 HGz2
  clear HGz2 hgz2
  go_enter Tryz.func97, Tryz.ntmps97
  go_wp2
  go_ret
  exact ⟨by first | rfl | (simp [errW_none, errW_some] <;> rfl) | (simp [*, errW_none, errW_some] <;> rfl), by repeat (first | (with_reducible first | exact HI0.out | apply IsS120.alloc | apply IsS120.drewN | apply IsS120.drew) | exact HI0.out), by repeat (first | (with_reducible first | exact HB.out | apply below_alloc | apply pw_below_drewN | apply below_drew1 | refine below_set ?_ (IsS120.ge HI0.out)) | exact HB.out), by repeat (first | (with_reducible first | exact HK.out | apply KeepBut.set_ | apply keep_drewN | apply keep_drew | apply keep_alloc) | exact HK.out)⟩

-- NOT PRINTED: function 78 (sql_FastIntSet_Len)

-- NOT PRINTED: function 57 (sql_ColSet_Len)

-- NOT PRINTED: function 61 (sql_Key_implies)

-- NOT PRINTED: function 45 (sql_FuncDepSet_AddStrictKey)

-- NOT PRINTED: function 106 (sql_sparse_filter)

-- NOT PRINTED: function 104 (sql_sparse_DifferenceWith)

-- NOT PRINTED: function 93 (sql_FastIntSet_DifferenceWith)

-- NOT PRINTED: function 75 (sql_FastIntSet_Difference)

-- NOT PRINTED: function 55 (sql_ColSet_Difference)

-- NOT PRINTED: function 46 (sql_FuncDepSet_AddLaxKey)

-- NOT PRINTED: function 18 (sql_NewTablescanFDs)

-- NOT PRINTED: function 19 (sql_ColSet)

-- NOT PRINTED: function 20 (sql_NewMax1RowFDs)

-- NOT PRINTED: function 30 (sql_FuncDepSet_All)

-- NOT PRINTED: function 32 (sql_FuncDepSet_Constants)

-- NOT PRINTED: function 47 (sql_FuncDepSet_AddConstants)

-- NOT PRINTED: function 71 (sql_EquivSets_Add)

-- NOT PRINTED: function 48 (sql_FuncDepSet_AddEquivSet)

-- NOT PRINTED: function 72 (sql_NewColSet)

-- NOT PRINTED: function 49 (sql_FuncDepSet_AddEquiv)

-- NOT PRINTED: function 50 (sql_FuncDepSet_AddKey)

-- NOT PRINTED: function 21 (sql_NewFilterFDs)

-- NOT PRINTED: function 51 (sql_ColumnId)

-- NOT PRINTED: function 22 (impl_pairs)

-- NOT PRINTED: function 103 (sql_sparse_IntersectionWith)

-- NOT PRINTED: function 91 (sql_FastIntSet_IntersectionWith)

-- NOT PRINTED: function 73 (sql_FastIntSet_Intersection)

-- NOT PRINTED: function 53 (sql_ColSet_Intersection)

-- NOT PRINTED: function 23 (sql_NewProjectFDs)

-- NOT PRINTED: function 58 (sql_Key_Empty)

-- NOT PRINTED: function 24 (sql_NewCrossJoinFDs)

-- NOT PRINTED: function 34 (sql_FuncDepSet_Equiv)

-- NOT PRINTED: function 36 (sql_FuncDepSet_HasMax1Row)

-- NOT PRINTED: function 59 (sql_FuncDepSet_CopyKeys)

-- NOT PRINTED: function 25 (sql_NewInnerJoinFDs)

-- NOT PRINTED: function 27 (sql_FuncDepSet_StrictKey)

-- NOT PRINTED: function 26 (sql_NewLeftJoinFDs)

-- NOT PRINTED: function 14 (impl_FDStep_do)

-- NOT PRINTED: function 28 (sql_FuncDepSet_LaxKey)

-- NOT PRINTED: function 81 (sql_FastIntSet_ForEach)

-- NOT PRINTED: function 62 (sql_ColSet_ForEach)

-- NOT PRINTED: function 29 (impl_ids)

-- NOT PRINTED: function 31 (sql_FuncDepSet_NotNull)

-- NOT PRINTED: function 33 (sql_ColSet_int)

-- NOT PRINTED: function 15 (impl_seenDeps)

-- NOT PRINTED: function 9 (impl_FDRun)

-- NOT PRINTED: function 5 (laws_fdLast)

/-! ### spec_ISSame: function 6 -/
def spec_ISSame.l0 : Nat → List Int → List Int → Int → Option (Bool)
  | 0, _, _, _ => none
  | k + 1, x0, x1, x5 => if x5 < (x0.length : Int) then (if 0 ≤ x5 then (if x5 < (x1.length : Int) then (if (rd x0 x5) = (rd x1 x5) then (spec_ISSame.l0 k x0 x1 (wrap64 (x5 + 1))) else (some false)) else (none)) else (none)) else (some true)
def spec_ISSame.f (k : Nat) (l0 : List Int) (l1 : List Int) : Option (Bool) := if (l0.length : Int) = (l1.length : Int) then (spec_ISSame.l0 k l0 l1 0) else (some false)
theorem spec_ISSame.mono_l : ∀ k, (∀ y0 y1 y2, LeO (spec_ISSame.l0 k y0 y1 y2) (spec_ISSame.l0 (k + 1) y0 y1 y2))
  | 0 => fun _ _ _ r h => by simp [spec_ISSame.l0] at h
  | k + 1 => by
    have ih0 := spec_ISSame.mono_l k
    · intro y0 y1 y2
      unfold spec_ISSame.l0
      repeat' first
      | (with_reducible exact ih0 _ _ _)
      | (with_reducible exact LeO.refl _)
      | (with_reducible exact LeO.none _)
      | (with_reducible refine LeO.ite ?_ ?_)
      | (with_reducible refine LeO.bind ?_ (fun _ => ?_))
      | exact ih0 _ _ _
      | exact LeO.none _
      | refine LeO.ite ?_ ?_
      | refine LeO.bind ?_ (fun _ => ?_)
theorem spec_ISSame.mono : ∀ a0 a1 k, LeO (spec_ISSame.f k a0 a1) (spec_ISSame.f (k + 1) a0 a1) := by
  intro a0 a1 k
  have ih0 := spec_ISSame.mono_l k
  unfold spec_ISSame.f
  repeat' first
      | (with_reducible exact ih0 _ _ _)
      | (with_reducible exact LeO.refl _)
      | (with_reducible exact LeO.none _)
      | (with_reducible refine LeO.ite ?_ ?_)
      | (with_reducible refine LeO.bind ?_ (fun _ => ?_))
      | exact ih0 _ _ _
      | exact LeO.none _
      | refine LeO.ite ?_ ?_
      | refine LeO.bind ?_ (fun _ => ?_)
set_option maxHeartbeats 8000000 in
set_option maxRecDepth 100000 in
theorem spec_ISSame.calls (k : Nat) (A0 : Option Addr) (c0 : Nat) (l0 : List Int) (A1 : Option Addr) (c1 : Nat) (l1 : List Int) (r : Bool) (w : World) (hr0 : Kd.C (Kd.int .i64) w A0 l0.length l0) (hc0 : l0.length ≤ c0) (hr1 : Kd.C (Kd.int .i64) w A1 l1.length l1) (hc1 : l1.length ≤ c1) (h : spec_ISSame.f k l0 l1 = some r) :
    Calls Tryz.prog 6 #[.slice A0 l0.length c0, .slice A1 l1.length c1] w fun e w' => e = .returned (.bool r) ∧ Drawn0 w w' := by
  have HR0 := Aside0.mk hr0
  have HC0 := Aside0.mk hc0
  clear hr0 hc0
  have HR1 := Aside0.mk hr1
  have HC1 := Aside0.mk hc1
  clear hr1 hc1
  have H : (if (l0.length : Int) = (l1.length : Int) then (spec_ISSame.l0 k l0 l1 0) else (some false)) = some r := h
  clear h
  by_cases c3 : (l0.length : Int) = (l1.length : Int)
  · rw [if_pos c3] at H
    have c3b0 : ((l0.length : Int) == (l1.length : Int)) = true := beq_iff_eq.mpr c3
    have c3b1 : ((l0.length : Int) != (l1.length : Int)) = false := bne_eq_false_iff_eq.mpr c3
    have c3b2 : (l0.length == l1.length) = true := by first | simpa using c3 | (simp at c3 ⊢; omega)
    clear c3
    have H' := Aside0.mk H
    clear H
    go_enter Tryz.func6, Tryz.ntmps6
    go_wp2
    repeat (go_quiet (fail); try go_wp2)
    go_loopg [5] k (fun kq v5 w' => ∃ (x5_1 : Int), v5 = .int .i64 x5_1 ∧ Aside0 (spec_ISSame.l0 kq l0 l1 x5_1 = some r) ∧ Aside0 (kq ≤ k) ∧ Drawn0 w w')
    case atStart => exact ⟨(0), (by first | rfl | (simp; done) | (simp [*]; done)), H', ⟨Nat.le_refl _⟩, by repeat (first | exact Drawn0.refl _ | apply Drawn0.step)⟩
    case round =>
      clear H'
      try clear c1
      try clear p2
      try clear c3
      try clear c3b0
      try clear c3b1
      try clear c3b2
      obtain ⟨x5_1, rfl, HA, HK1, ⟨m1, rfl⟩⟩ := hrel
      cases gk with
      | zero => exact absurd HA.out (by simp [spec_ISSame.l0])
      | succ k1 =>
        have H := HA.out
        clear HA
        simp only [spec_ISSame.l0] at H
        by_cases c4 : x5_1 < (l0.length : Int)
        · rw [if_pos c4] at H
          have c4b0 : decide (x5_1 < (l0.length : Int)) = true := decide_eq_true c4
          clear c4
          by_cases c5 : 0 ≤ x5_1
          · rw [if_pos c5] at H
            have c5b0 : decide (0 ≤ x5_1) = true := decide_eq_true c5
            clear c5
            by_cases c6 : x5_1 < (l1.length : Int)
            · rw [if_pos c6] at H
              have c6b0 : decide (x5_1 < (l1.length : Int)) = true := decide_eq_true c6
              clear c6
              by_cases c7 : (rd l0 x5_1) = (rd l1 x5_1)
              · rw [if_pos c7] at H
                have c7b0 : ((rd l0 x5_1) == (rd l1 x5_1)) = true := beq_iff_eq.mpr c7
                have c7b1 : ((rd l0 x5_1) != (rd l1 x5_1)) = false := bne_eq_false_iff_eq.mpr c7
                clear c7
                have H' := Aside0.mk H
                clear H
                have p108 : 0 ≤ (x5_1 : Int) := of_decide_eq_true (by first | (with_reducible assumption) | assumption)
                have q108 : x5_1 < (l0.length : Int) := of_decide_eq_true (by first | (with_reducible assumption) | assumption)
                obtain ⟨ad108, e108, hx108_0⟩ := Kd.at_int HR0.out x5_1 p108 q108
                cases e108
                replace p108 := eq_true p108
                replace q108 := eq_true q108
                have p109 : 0 ≤ (x5_1 : Int) := of_decide_eq_true (by first | (with_reducible assumption) | assumption)
                have q109 : x5_1 < (l1.length : Int) := of_decide_eq_true (by first | (with_reducible assumption) | assumption)
                obtain ⟨ad109, e109, hx109_0⟩ := Kd.at_int HR1.out x5_1 p109 q109
                cases e109
                replace p109 := eq_true p109
                replace q109 := eq_true q109
                go_wp2
                repeat (go_quiet (fail); try go_wp2)
                go_roundg k1
                case measure => have := HK1.out; omega
                case rel => exact ⟨(wrap64 (x5_1 + 1)), (by first | rfl | (simp; done) | (simp [*]; done)), H', ⟨by have := HK1.out; omega⟩, by repeat (first | exact Drawn0.refl _ | apply Drawn0.step)⟩
              · rw [if_neg c7] at H
                have c7b0 : ((rd l0 x5_1) == (rd l1 x5_1)) = false := beq_eq_false_iff_ne.mpr c7
                have c7b1 : ((rd l0 x5_1) != (rd l1 x5_1)) = true := bne_iff_ne.mpr c7
                obtain rfl := Option.some.inj H
                have p108 : 0 ≤ (x5_1 : Int) := of_decide_eq_true (by first | (with_reducible assumption) | assumption)
                have q108 : x5_1 < (l0.length : Int) := of_decide_eq_true (by first | (with_reducible assumption) | assumption)
                obtain ⟨ad108, e108, hx108_0⟩ := Kd.at_int HR0.out x5_1 p108 q108
                cases e108
                replace p108 := eq_true p108
                replace q108 := eq_true q108
                have p109 : 0 ≤ (x5_1 : Int) := of_decide_eq_true (by first | (with_reducible assumption) | assumption)
                have q109 : x5_1 < (l1.length : Int) := of_decide_eq_true (by first | (with_reducible assumption) | assumption)
                obtain ⟨ad109, e109, hx109_0⟩ := Kd.at_int HR1.out x5_1 p109 q109
                cases e109
                replace p109 := eq_true p109
                replace q109 := eq_true q109
                go_wp2
                repeat (go_quiet (fail); try go_wp2)
                go_ret
                exact ⟨by first | rfl | (simp; done) | (simp [*]; done), by repeat (first | exact Drawn0.refl _ | apply Drawn0.step)⟩
            · rw [if_neg c6] at H
              exact absurd H (by simp)
          · rw [if_neg c5] at H
            exact absurd H (by simp)
        · rw [if_neg c4] at H
          have c4b0 : decide (x5_1 < (l0.length : Int)) = false := decide_eq_false c4
          clear c4
          obtain rfl := Option.some.inj H
          go_wp2
          repeat (go_quiet (fail); try go_wp2)
          go_ret
          exact ⟨by first | rfl | (simp; done) | (simp [*]; done), by repeat (first | exact Drawn0.refl _ | apply Drawn0.step)⟩
  · rw [if_neg c3] at H
    have c3b0 : ((l0.length : Int) == (l1.length : Int)) = false := beq_eq_false_iff_ne.mpr c3
    have c3b1 : ((l0.length : Int) != (l1.length : Int)) = true := bne_iff_ne.mpr c3
    have c3b2 : (l0.length == l1.length) = false := by first | simpa using c3 | (simp at c3 ⊢; omega)
    obtain rfl := Option.some.inj H
    go_enter Tryz.func6, Tryz.ntmps6
    go_wp2
    repeat (go_quiet (fail); try go_wp2)
    go_ret
    exact ⟨by first | rfl | (simp; done) | (simp [*]; done), by repeat (first | exact Drawn0.refl _ | apply Drawn0.step)⟩

end Go.Proofs.YtoeapddecmhlkaaGreatDoor.PFnFDOne
