/-
  Contracts of sets of columns that are small (masks): Add, and impl.columns. Condition: columns from 1 to 64.
-/
import Derived.Test.YtlghbhkpdlkhjaaDoorPEQ0
import Derived.LoopTactic
import Derived.BigCall
import Derived.Lib.Builder
import Derived.Laws.BitsAllLaws
import Derived.Lib.EndianBits
namespace Go.Proofs.YtlghbhkpdlkhjaaDoor.PEQ
open Go.RowKit Go.Proofs.YtlghbhkpdlkhjaaDoorW.PrintWords Go.Proofs.YtlghbhkpdlkhjaaDoorW.PrintLast Go.Proofs.YtlghbhkpdlkhjaaDoorW.PrintMore
set_option linter.unusedVariables false
set_option linter.unusedSimpArgs false
set_option maxRecDepth 100000
set_option maxHeartbeats 400000

/-- a small set by value -/
abbrev cv (m : Nat) : Value := .agg #[.int .u64 (m : Int), .pointer none]
abbrev big : Nat := 18446744073709551616
theorem or_lt {a b : Nat} (ha : a < big) (hb : b < big) : a ||| b < big := Nat.or_lt_two_pow (n := 64) ha hb
theorem two_lt {k : Nat} (hk : k < 64) : 2 ^ k < big := Nat.pow_lt_pow_right (by decide) hk
theorem wrap_two {k : Nat} (hk : k < 64) : IntKind.u64.wrap (2 ^ k) = ((2 ^ k : Nat) : Int) := by
  have h2 := two_lt hk
  have e : (2 : Int) ^ k = ((2 ^ k : Nat) : Int) := by push_cast; rfl
  rw [e]
  generalize 2 ^ k = z at h2 ⊢
  rw [IntKind.wrap_u64]
  unfold big at h2
  exact Int.emod_eq_of_lt (by omega) (by omega)
/-- a set at an address: its two cells -/
structure At (w : World) (p : Nat) (m : Nat) : Prop where
  lt : p < w.heap.size
  c0 : w.cell? ⟨p, 0, none⟩ = some (.int .u64 (m : Int))
  c1 : w.cell? ⟨p, 1, none⟩ = some (.pointer none)
  z0 : w.frozen? ⟨p, 0, none⟩ = false
theorem At.of {w : World} {p m t : Nat} (h : w.heap[p]? = some (.cells #[.int .u64 (m : Int), .pointer none] t (0, 0))) : At w p m :=
  ⟨blk_lt h, by rw [Lib.cell_of_heap h]; rfl, by rw [Lib.cell_of_heap h]; rfl, Lib.frozen_of_heap h _⟩
theorem At.drew {w : World} {p m : Nat} (h : At w p m) : At w.drew p m := ⟨h.1, h.2, h.3, h.4⟩
theorem At.drewN {w : World} {p m : Nat} (h : At w p m) (n : Nat) : At (w.drewN n) p m := ⟨by simpa using h.1, by simpa [go_sem] using h.2, by simpa [go_sem] using h.3, by simpa [go_sem] using h.4⟩
theorem fs_add (p k m : Nat) (w : World) (hA : At w p m) (hk : k < 64) (hm : m < big) :
    Calls Tryd.prog 37 #[.pointer (some ⟨p, 0, none⟩), .int .i64 (k : Int)] w fun e w' => e = .returned (.tuple #[]) ∧ w' = w.setCell ⟨p, 0, none⟩ (.int .u64 ((m ||| 2 ^ k : Nat) : Int)) := by
  obtain ⟨hp, h0, h1, z0⟩ := hA
  have hor : bits BinOp.or IntKind.u64 (m : Int) (IntKind.u64.wrap (2 ^ k)) = ((m ||| 2 ^ k : Nat) : Int) := by
    rw [wrap_two hk]
    exact u64_or_nat m _ hm (two_lt hk)
  generalize m ||| 2 ^ k = m2 at *
  clear hm
  go_enter Tryd.func37, Tryd.ntmps37
  go_wp2
  refine bodyPost_ret (results_none Tryd.results37 _ _ _) rfl ?_
  exact ⟨rfl, rfl⟩
theorem setVal_ok (k : Nat) (hk : k < 64) (w : World) : Calls Tryd.prog 77 #[.int .u16 ((k : Int) + 1)] w fun e w' => e = .returned (.int .i64 (k : Int)) ∧ w' = w := by
  go_enter Tryd.func77, Tryd.ntmps77
  go_wp2
  go_ret
  exact ⟨by simp, rfl⟩
theorem retVal_ok (k : Nat) (hk : k < 64) (w : World) : Calls Tryd.prog 79 #[.int .i64 (k : Int)] w fun e w' => e = .returned (.int .u16 ((k : Int) + 1)) ∧ w' = w := by
  go_enter Tryd.func79, Tryd.ntmps79
  go_wp2
  go_ret
  exact ⟨by simp, rfl⟩
theorem cs_add (p k m : Nat) (w : World) (hA : At w p m) (hk : k < 64) (hm : m < big) :
    Calls Tryd.prog 45 #[.pointer (some ⟨p, 0, none⟩), .int .u16 ((k : Int) + 1)] w fun e w' => e = .returned (.tuple #[]) ∧ w' = (w.setCell ⟨p, 0, none⟩ (.int .u64 ((m ||| 2 ^ k : Nat) : Int))).drew := by
  have HA := Aside0.mk (fun W hW => fs_add p k m W hW hk hm)
  have HW := Aside0.mk hA
  have hp := hA.1
  generalize m ||| 2 ^ k = m2 at *
  clear hm hA
  go_enter Tryd.func45, Tryd.ntmps45
  go_region_with (first | (go_at_call 77; refine (setVal_ok k hk _).mono ?_; rintro e w2 ⟨rfl, hw⟩; subst w2) | (go_at_call 37; refine (HA.out _ (by first | exact HW.out | exact HW.out.drew | exact HW.out.drewN _)).mono ?_; rintro e w2 ⟨rfl, rfl⟩))
  all_goals go_end0
  all_goals exact ⟨rfl, rfl⟩
theorem alloc_old {w : World} {p : Nat} {o : Obj} (h : w.heap[p]? = some o) (o' : Obj) : (w.alloc o').heap[p]? = some o := ((below_alloc (Below.refl _ w) o').block p (blk_lt h)).trans h
theorem alloc_at {w : World} {p : Nat} (o : Obj) (h : p = w.heap.size) : (w.alloc o).heap[p]? = some o := h ▸ heap_alloc_new _ _
/-- the mask of some columns -/
def mk (l : List Int) : Nat := l.foldl (fun m x => m ||| 2 ^ (x - 1).toNat) 0
theorem mk_take (l : List Int) (k : Nat) (h : k < l.length) : mk (l.take (k + 1)) = mk (l.take k) ||| 2 ^ (l[k] - 1).toNat := by
  unfold mk
  rw [List.take_succ_eq_append_getElem h, List.foldl_append]
  rfl
theorem mk_lt : ∀ (l : List Int) (m : Nat), m < big → (∀ x ∈ l, 1 ≤ x ∧ x ≤ 64) → l.foldl (fun m x => m ||| 2 ^ (x - 1).toNat) m < big
  | [], m, h, _ => h
  | z :: t, m, h, hb => mk_lt t _ (or_lt h (two_lt (by have := hb z (List.mem_cons_self ..); omega))) (fun x hx => hb x (List.mem_cons_of_mem _ hx))
theorem mk_big (l : List Int) (hb : ∀ x ∈ l, 1 ≤ x ∧ x ≤ 64) : mk l < big := mk_lt l 0 (by decide) hb
theorem columns_ok (A : Option Addr) (c : Nat) (l : List Int) (w : World) (hC : Kd.C (Kd.int .i64) w A l.length l) (hb : ∀ x ∈ l, 1 ≤ x ∧ x ≤ 64) (hl : l.length ≤ 1000) :
    Calls Tryd.prog 27 #[.slice A l.length c] w fun e w' => e = .returned (cv (mk l)) ∧ Below w.heap.size w w' := by
  have HC := Aside0.mk hC
  have HR := Aside0.mk hb
  have HL := Aside0.mk hl
  have HB0 := Aside0.mk (below_then (below_alloc (Below.refl w.heap.size w) (.cells #[.int .u64 0, .pointer none] 55)) (by simp) (below_alloc (Below.refl _ (w.alloc (.cells #[.int .u64 0, .pointer none] 55))) (.cells #[.int .u64 0, .pointer none] 55)))
  clear hC hb
  go_enter Tryd.func27, Tryd.ntmps27
  go_wp2
  go_loopw [8] (fun t8 wr => ∃ k : Nat, t8 = .int .i64 (k : Int) ∧ k ≤ l.length ∧ wr.heap[w.heap.size]? = some (.cells #[.int .u64 0, .pointer none] 55 (0, 0)) ∧ wr.heap[w.heap.size + 1]? = some (.cells #[.int .u64 (mk (l.take k) : Int), .pointer none] 55 (0, 0)) ∧ Aside0 (Below w.heap.size w wr)) (fun t8 _ => l.length - (intOf t8).toNat)
  case atStart => exact ⟨0, rfl, Nat.zero_le _, alloc_old (heap_alloc_new _ _) _, alloc_at _ (by simp), HB0⟩
  case round =>
    clear HB0
    obtain ⟨k, rfl, hk, hb0, hb1, HB⟩ := hrel
    rcases Nat.lt_or_ge k l.length with hlt | hge
    · obtain ⟨ad, e, hx⟩ := Kd.at_int (Kd.C_below HC.out HB.out) (k : Int) (by omega) (by omega)
      subst e
      rw [Int.toNat_natCast] at hx
      have hget : rd l (k : Int) = l[k] := by unfold rd; rw [Int.toNat_natCast, List.getD_eq_getElem?_getD, List.getElem?_eq_getElem hlt]; rfl
      rw [hget] at hx
      have hr := HR.out _ (List.getElem_mem hlt)
      obtain ⟨j, hj⟩ : ∃ j : Nat, l[k] = (j : Int) + 1 := ⟨(l[k] - 1).toNat, by omega⟩
      have hmk := mk_take l k hlt
      rw [hj, show ((j : Int) + 1 - 1).toNat = j by omega] at hmk
      rw [hj] at hx hr
      have HM := Aside0.mk hmk
      have hA := At.of hb1
      have HA := Aside0.mk (cs_add (w.heap.size + 1) j _ wr hA (by omega) (mk_big _ (fun x hx => HR.out x (List.mem_of_mem_take hx))))
      rw [← hmk] at HA
      generalize hm2 : mk (l.take (k + 1)) = m2 at *
      have HM2 := Aside0.mk hm2
      clear hm2
      generalize mk (l.take k) = m1 at *
      have HB2 := Aside0.mk (below_drew (HB.out.setCell (p := ⟨w.heap.size + 1, 0, none⟩) (by simp) (.int .u64 (m2 : Int))))
      have hb02 : (wr.setCell ⟨w.heap.size + 1, 0, none⟩ (.int .u64 (m2 : Int))).drew.heap[w.heap.size]? = some (.cells #[.int .u64 0, .pointer none] 55 (0, 0)) := (Below.heap_setCell _ _ _ _ (by simp)).trans hb0
      have hb12 : (wr.setCell ⟨w.heap.size + 1, 0, none⟩ (.int .u64 (m2 : Int))).drew.heap[w.heap.size + 1]? = some (.cells #[.int .u64 (m2 : Int), .pointer none] 55 (0, 0)) := by
        show (wr.heap.modify _ _)[w.heap.size + 1]? = _
        rw [Array.getElem?_modify, if_pos rfl, hb1]
        rfl
      have H02 := Aside0.mk hb02
      have H12 := Aside0.mk hb12
      clear hb02 hb12 hb0 hb1 hA hmk hget hj HB
      go_wp2_with fail
      refine HA.out.mono ?_
      rintro e w3 ⟨rfl, rfl⟩
      go_wp2_with fail
      go_roundw
      case rel => exact ⟨k + 1, by go_num, by omega, H02.out, by rw [HM2.out]; exact H12.out, HB2⟩
      case measure => simp [intOf]; omega
    · obtain rfl : k = l.length := by omega
      rw [List.take_length] at hb1
      have c0 : wr.cell? ⟨w.heap.size, 0, none⟩ = some (.int .u64 0) := by rw [Lib.cell_of_heap hb0]; rfl
      have c1 : wr.cell? ⟨w.heap.size, 1, none⟩ = some (.pointer none) := by rw [Lib.cell_of_heap hb0]; rfl
      have d0 : wr.cell? ⟨w.heap.size + 1, 0, none⟩ = some (.int .u64 (mk l : Int)) := by rw [Lib.cell_of_heap hb1]; rfl
      have d1 : wr.cell? ⟨w.heap.size + 1, 1, none⟩ = some (.pointer none) := by rw [Lib.cell_of_heap hb1]; rfl
      have z0 : wr.frozen? ⟨w.heap.size, 0, none⟩ = false := Lib.frozen_of_heap hb0 _
      have z1 : wr.frozen? ⟨w.heap.size, 1, none⟩ = false := Lib.frozen_of_heap hb0 _
      have hlt := blk_lt hb0
      clear hb0 hb1
      have HBf := Aside0.mk ((HB.out.setCell (p := ⟨w.heap.size, 0, none⟩) (Nat.le_refl _) (.int .u64 (mk l : Int))).setCell (p := ⟨w.heap.size, 1, none⟩) (Nat.le_refl _) (.pointer none))
      go_wp2_with fail
      refine bodyPost_ret (v := cv (mk l)) (by simp [results, Tryd.results27, go_sem, hlt, c0, c1]) rfl ⟨rfl, ?_⟩
      exact HBf.out
end Go.Proofs.YtlghbhkpdlkhjaaDoor.PEQ
