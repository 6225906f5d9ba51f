/-
  Contract of impl.ids: the columns of a small set, rising. Condition: math/bits.deBruijn64tab as laid.
-/
import Derived.Test.YtlghbhkpdlkhjaaDoorEQe
import Derived.Test.YtlghbhkpdlkhjaaDoorITa
import Derived.Outline
import Derived.Laws.EntriesVeiled
namespace Go.Proofs.YtlghbhkpdlkhjaaDoor.PEQ
open Go.RowKit Go.Proofs.YtlghbhkpdlkhjaaDoorW.PrintWords Go.Proofs.YtlghbhkpdlkhjaaDoorW.PrintLast Go.Proofs.YtlghbhkpdlkhjaaDoorW.PrintMore
open Go.Proofs.YtlghbhkpdlkhjaaDoor.PIS (Glob Bits Kept Fold forEach_small infoI64)
set_option linter.unusedVariables false
set_option linter.unusedSimpArgs false
set_option maxRecDepth 100000
set_option maxHeartbeats 400000

/-- a variable that holds a row of numbers of the call's own -/
def RowVar (W : World) (r base : Nat) (xs : List Int) : Prop := ∃ v, W.heap[r]? = some (.cells #[v] 22 (0, 0)) ∧ Kd.R (Kd.int .i64) 3 W base (fun _ => True) v xs ∧ r < base ∧ base ≤ W.heap.size
theorem ids1_ok (r base : Nat) (xs : List Int) (x : Nat) (hx : x < 65536) (W : World) (h : RowVar W r base xs) (hl : xs.length ≤ 1000) :
    Calls Tryd.prog 47 #[.int .u16 (x : Int), .pointer (some ⟨r, 0, none⟩)] W fun e W' => e = .returned (.tuple #[]) ∧ RowVar W' r base (xs ++ [(x : Int)]) ∧ Still (fun k => k = r ∨ base ≤ k ∧ ∃ cs, W.heap[k]? = some (.cells cs 3 (0, 0))) W W' := by
  obtain ⟨v, h0, hR, hr, hb⟩ := h
  obtain ⟨A, c, rfl⟩ := Kd.R_slice hR
  have c0 : W.cell? ⟨r, 0, none⟩ = some (.slice A xs.length c) := by rw [Lib.cell_of_heap h0]; rfl
  have z0 : W.frozen? ⟨r, 0, none⟩ = false := Lib.frozen_of_heap h0 _
  have HR := Aside0.mk hR
  have HH := Aside0.mk h0
  have hrW : r < W.heap.size := by omega
  have hrW' : ¬ r = W.heap.size := by omega
  clear hR h0
  go_enter Tryd.func47, Tryd.ntmps47
  go_wp2_with ((with_reducible refine gate_builtin (b := .append) (xs := #[.tmp 3, .tmp 6]) rfl ?_); at_builtin; go_loud (refine Kd.R_append (Kd.int .i64) (w0 := W) (W := W) base rfl (.tmp 3) (.tmp 6) 22 3 (.int .i64 0) 8 rfl Tryd.underlying22 infoI64 rfl (by decide) (by decide) (.slice A xs.length c) xs (x : Int) [.int .i64 (x : Int)] (fun _ => True) (fun _ => False) rfl rfl rfl (fun _ hk => hk.elim) (fun _ _ => trivial) HR.out (Below.refl _ _) hb (by omega) ?_; intro v1 w1 ho hb1 hg1 hat; clear hat; obtain ⟨A1, c1, rfl⟩ := Kd.R_slice ho; rw [List.length_append, List.length_singleton] at ho; have HO := Aside0.mk ho; have HB := Aside0.mk hb1; have HG := Aside0.mk hg1; have k1 := (hb1.cell (p := ⟨r, 0, none⟩) hr).trans c0; have z1 := (hb1.frozen (p := ⟨r, 0, none⟩) hr).trans z0; clear ho hb1 hg1))
  go_end0
  have hne : ∀ k, k ≠ r → ∀ v, (w1.setCell ⟨r, 0, none⟩ v).heap[k]? = w1.heap[k]? := fun k hk v => Below.heap_setCell _ _ _ _ hk
  refine ⟨rfl, ⟨_, heap_set_at ((HB.out.block r hr).trans HH.out) 0 _, Kd.R_mono (Kd.R_far (p := ⟨r, 0, none⟩) (Kd.R_bound HO.out) (fun k hk => by have := hk.2.1; show k ≠ r; omega) _) (fun _ _ => trivial), hr, ?_⟩, ?_⟩
  · have := HB.out.size
    simp [World.setCell]
    omega
  · have hS : Still (fun k => k = r ∨ base ≤ k ∧ ∃ cs, W.heap[k]? = some (.cells cs 3 (0, 0))) W w1 := by
      refine ⟨HB.out.os, HB.out.tape, HB.out.output, HB.out.size, fun k hk hs => ?_⟩
      refine HG.out.block k hk (fun e => hs (.inr ?_))
      obtain ⟨cs, hc⟩ := Kd.R_typed HR.out k e.symm
      exact ⟨Kd.R_base HR.out k e.symm, cs, hc⟩
    exact hS.setCell (p := ⟨r, 0, none⟩) (.inl (.inl rfl)) _
/-- the numbers of a mask, rising from 0 -/
def bitsL (m : Nat) : List Int := ((List.range 64).filter (fun j => m.testBit j)).map (fun j : Nat => (j : Int))
theorem bitsL_bits (m : Nat) : Bits m 64 (bitsL m) := fun y => by
  unfold bitsL
  simp only [List.mem_map, List.mem_filter, List.mem_range]
  constructor
  · rintro ⟨j, ⟨h1, h2⟩, rfl⟩
    exact ⟨j, rfl, h1, h2⟩
  · rintro ⟨j, rfl, h1, h2⟩
    exact ⟨j, ⟨h1, h2⟩, rfl⟩
theorem bitsL_sorted (m : Nat) : (bitsL m).Pairwise (· < ·) := by
  unfold bitsL
  rw [List.pairwise_map]
  exact (List.pairwise_lt_range.sublist List.filter_sublist).imp (fun h => by omega)
theorem bitsL_len (m : Nat) : (bitsL m).length ≤ 64 := by
  unfold bitsL
  rw [List.length_map]
  have := List.length_filter_le (fun j => m.testBit j) (List.range 64)
  simpa using this
/-- the columns of a mask, rising from 1 -/
def colsOf (m : Nat) : List Int := (bitsL m).map (· + 1)
def XI (k : Nat) (o : Obj) : Prop := ∃ cs t fz, o = .cells cs t fz ∧ (t = 22 ∨ t = 3)
structure Inv (l : List Int) (q r base : Nat) (k : Nat) (W : World) : Prop where
  box : W.heap[q]? = some (.cells #[.func (.func 47) #[] #[.pointer (some ⟨r, 0, none⟩)]] 77 (0, 0))
  row : RowVar W r base ((l.take k).map (· + 1))
  qb : q < W.heap.size
theorem RowVar.later {W W' : World} {r base : Nat} {xs : List Int} (h : RowVar W r base xs) (hb : Below W.heap.size W W') : RowVar W' r base xs := by
  obtain ⟨v, h1, h2, h3, h4⟩ := h
  exact ⟨v, (hb.block r (blk_lt h1)).trans h1, Kd.R_below h2 hb, h3, Nat.le_trans h4 hb.size⟩
theorem each1_ok (q r base B : Nat) (l : List Int) (k : Nat) (hk : k < l.length) (hl : l.length ≤ 64) (hx : 0 ≤ l[k] ∧ l[k] < 64) (hB : B ≤ r) (W : World) (hI : Inv l q r base k W) :
    Calls Tryd.prog 78 (#[.int .i64 l[k]] ++ #[.pointer (some ⟨q, 0, none⟩)]) W fun e W' => e = .returned (.tuple #[]) ∧ Inv l q r base (k + 1) W' ∧ Below B W W' ∧ Kept XI W W' := by
  obtain ⟨hbx, hrow, hqb⟩ := hI
  obtain ⟨j, hj⟩ : ∃ j : Nat, l[k] = (j : Int) := ⟨l[k].toNat, by omega⟩
  have htk : (l.take (k + 1)).map (· + 1) = (l.take k).map (· + 1) ++ [((j + 1 : Nat) : Int)] := by
    rw [List.take_succ_eq_append_getElem hk, List.map_append, hj]
    rfl
  have H1 := Aside0.mk (fun W h => ids1_ok r base ((l.take k).map (· + 1)) (j + 1) (by omega) W h (by rw [List.length_map, List.length_take]; omega))
  rw [← htk] at H1
  have HR := Aside0.mk (fun W => retVal_ok j (by omega) W)
  have c0 : W.cell? ⟨q, 0, none⟩ = some (.func (.func 47) #[] #[.pointer (some ⟨r, 0, none⟩)]) := by rw [Lib.cell_of_heap hbx]; rfl
  have HX := Aside0.mk hbx
  have hr2 := hrow
  rw [hj]
  clear hbx htk
  show Calls Tryd.prog 78 #[.int .i64 (j : Int), .pointer (some ⟨q, 0, none⟩)] W _
  go_enter Tryd.func78, Tryd.ntmps78
  go_region_with (first | (go_at_call 79; refine (HR.out _).mono ?_; rintro e w2 ⟨rfl, hw⟩; subst w2) | (go_at_call 47; go_loud (refine (H1.out _ (by first | exact hr2 | exact hr2.later (below_drew (Below.refl _ _)))).mono ?_; rintro e w3 ⟨rfl, hrow3, hst⟩)))
  all_goals go_end0
  all_goals
    obtain ⟨v1, hv1, _, hrb, hbW⟩ := hr2
    have hqr : q ≠ r := by
      rintro rfl
      have h := HX.out.symm.trans hv1
      cases h
    refine ⟨rfl, ⟨(hst.block q hqb (by
      rintro (h | ⟨_, cs, hc⟩)
      · exact hqr h
      · have h := HX.out.symm.trans hc
        cases h)).trans HX.out, hrow3, Nat.lt_of_lt_of_le hqb hst.size⟩, ?_, ?_⟩
    · exact ⟨hst.os, hst.tape, hst.output, hst.size, fun z hz => hst.block z (show z < W.heap.size by omega) (by rintro (h | ⟨h, _⟩) <;> omega)⟩
    · intro z o hz hn
      refine (hst.block z (blk_lt hz) ?_).trans hz
      rintro (rfl | ⟨_, cs, hc⟩)
      · exact hn ⟨_, _, _, Option.some.inj (hz.symm.trans hv1), .inl rfl⟩
      · exact hn ⟨_, _, _, Option.some.inj (hz.symm.trans hc), .inr rfl⟩
theorem fold_ids (q r base B : Nat) (l : List Int) (hl : l.length ≤ 64) (hx : ∀ x ∈ l, 0 ≤ x ∧ x < 64) (hB : B ≤ r) :
    Fold 78 #[.pointer (some ⟨q, 0, none⟩)] XI B l (Inv l q r base) where
  enter := fun args W => enters_ Tryd.func78 (by kernel_rfl) rfl args W
  own := fun k cs fz h => by
    obtain ⟨c, t, f, e, h1⟩ := h
    cases e
    revert h1; decide
  stable := fun k W W' h hb => ⟨(hb.block _ h.qb).trans h.box, h.row.later hb, Nat.lt_of_lt_of_le h.qb hb.size⟩
  step := fun k h W hI => each1_ok q r base B l k h hl (hx _ (List.getElem_mem h)) hB W hI
theorem bitsL_mem (m : Nat) : ∀ x ∈ bitsL m, 0 ≤ x ∧ x < 64 := fun x hx => by
  obtain ⟨j, rfl, h, _⟩ := (bitsL_bits m x).1 hx
  omega
theorem csEach_ok (m r base : Nat) (hr0 : 0 < r) (hm : m < big) (w : World) (hg : Glob w) (hrow : RowVar w r base []) :
    Calls Tryd.prog 46 #[cv m, .func (.func 47) #[] #[.pointer (some ⟨r, 0, none⟩)]] w fun e w' => e = .returned (.tuple #[]) ∧ RowVar w' r base (colsOf m) ∧ Below r w w' ∧ Kept XI w w' := by
  have hrb : r < w.heap.size := by obtain ⟨v, h1, _⟩ := hrow; exact blk_lt h1
  have hW : ∀ W : World, W = (w.alloc (.cells #[.int .u64 (m : Int), .pointer none] 55)).alloc (.cells #[.func (.func 47) #[] #[.pointer (some ⟨r, 0, none⟩)]] 77) → Below w.heap.size w W ∧ Inv (bitsL m) (w.heap.size + 1) r base 0 W := fun W e => by
    subst e
    have hb := below_alloc (below_alloc (Below.refl w.heap.size w) (.cells #[.int .u64 (m : Int), .pointer none] 55)) (.cells #[.func (.func 47) #[] #[.pointer (some ⟨r, 0, none⟩)]] 77)
    exact ⟨hb, alloc_at _ (by simp), hrow.later hb, by simp⟩
  have HW := Aside0.mk (hW _ rfl)
  have HF := Aside0.mk (fun W (hb : Below w.heap.size w W) (hi : Inv (bitsL m) (w.heap.size + 1) r base 0 W) => forEach_small 78 #[.pointer (some ⟨w.heap.size + 1, 0, none⟩)] XI r (bitsL m) _ (fold_ids (w.heap.size + 1) r base r (bitsL m) (bitsL_len m) (bitsL_mem m) (Nat.le_refl _)) m hm (bitsL_bits m) (bitsL_sorted m) W (by have := hb.size; omega) (fun W2 h2 i hi => (h2.cell (p := ⟨0, i, none⟩) hr0).trans (hg.later hb i hi)) hi)
  clear hg hrow hW hm
  go_enter Tryd.func46, Tryd.ntmps46
  go_wp2_with fail
  refine (HF.out _ HW.out.1 HW.out.2).mono ?_
  rintro e w2 ⟨rfl, hi, hb, hk⟩
  go_wp2_with fail
  go_end0
  have hr := hi.row
  rw [List.take_length] at hr
  exact ⟨rfl, hr, (HW.out.1.mono (by omega)).trans hb, (Kept.below HW.out.1).trans hk⟩
theorem ids_ok (m : Nat) (hm : m < big) (w : World) (hg : Glob w) :
    Calls Tryd.prog 30 #[cv m] w fun e w' => ∃ v, e = .returned v ∧ Kd.R (Kd.int .i64) 3 w' w.heap.size (fun _ => True) v (colsOf m) ∧ Below w.heap.size w w' := by
  have hW : ∀ W : World, W = (w.alloc (.cells #[.int .u64 (m : Int), .pointer none] 55)).alloc (.cells #[.slice none 0 0] 22) → Below w.heap.size w W ∧ RowVar W (w.heap.size + 1) (w.heap.size + 1 + 1) [] := fun W e => by
    subst e
    exact ⟨below_alloc (below_alloc (Below.refl _ _) _) _, _, alloc_at _ (by simp), Kd.R_nil _ _ _ _ _, by omega, by simp⟩
  have HW := Aside0.mk (hW _ rfl)
  have HE := Aside0.mk (fun W (hb : Below w.heap.size w W) hr => csEach_ok m (w.heap.size + 1) (w.heap.size + 1 + 1) (by omega) hm W (hg.later hb) hr)
  clear hg hm hW
  go_enter Tryd.func30, Tryd.ntmps30
  go_wp2_with fail
  refine (HE.out _ HW.out.1 HW.out.2).mono ?_
  rintro e w2 ⟨rfl, ⟨v, hv, hR, _, hsz⟩, hb, hk⟩
  have c0 : w2.cell? ⟨w.heap.size + 1, 0, none⟩ = some v := by rw [Lib.cell_of_heap hv]; rfl
  have HR := Aside0.mk hR
  have HB := Aside0.mk (HW.out.1.trans (hb.mono (by omega)))
  obtain ⟨A, c, rfl⟩ := Kd.R_slice hR
  clear hR hv hk hb
  go_wp2_with fail
  go_ret
  exact ⟨_, rfl, Kd.R_lower HR.out (by omega), HB.out⟩
end Go.Proofs.YtlghbhkpdlkhjaaDoor.PEQ
