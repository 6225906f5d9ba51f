/-
  Contract of internal/strconv.formatBits at the bases 2, 4, 8, 16, 32. math/bits.deBruijn64tab as laid.
-/
import Derived.Test.YthicaehcoingeaaDoorCVf
import Derived.Laws.BitsLemmas
namespace Go.Proofs.YthicaehcoingeaaDoor.PTV
open Go.RowKit Go.Proofs.YthicaehcoingeaaDoorW.PrintWords Go.Proofs.YthicaehcoingeaaDoorW.PrintLast Go.Proofs.YthicaehcoingeaaDoorW.PrintMore
set_option linter.unusedVariables false
set_option linter.unusedSimpArgs false
set_option maxRecDepth 1000000
set_option maxHeartbeats 2000000

def bruijnL : List Int := [0, 1, 56, 2, 57, 49, 28, 3, 61, 58, 42, 50, 38, 29, 17, 4, 62, 47, 59, 36, 45, 43, 51, 22, 53, 39, 33, 30, 24, 18, 12, 5, 63, 55, 48, 27, 60, 41, 37, 16, 46, 35, 44, 21, 52, 32, 23, 11, 54, 26, 40, 15, 34, 20, 31, 10, 25, 14, 19, 9, 13, 8, 7, 6]
def Bruijn (w : World) : Prop := ∀ i : Nat, i < 64 → w.cell? ⟨15, i, none⟩ = some (.int .u8 (bruijnL.getD i 0))
theorem Bruijn.later {w w' : World} (h : Bruijn w) (hb : Below w.heap.size w w') : Bruijn w' := fun i hi => (hb.cell (World.block_lt_of_cell? w _ (h i hi))).trans (h i hi)
theorem Bruijn.alloc {w : World} (h : Bruijn w) (o : Obj) : Bruijn (w.alloc o) := h.later (below_alloc (Below.refl _ _) _)

theorem pow_ok2 (w : World) : Calls Tryd.prog 145 #[.int .i64 2] w fun e w' => e = .returned (.bool true) ∧ w' = w := by
  go_enter Tryd.func145, Tryd.ntmps145
  go_wp2
  go_ret
  exact ⟨rfl, rfl⟩
theorem tz_ok2 (w : World) (hg : Bruijn w) : Calls Tryd.prog 146 #[.int .u64 2] w fun e w' => e = .returned (.int .i64 1) ∧ w' = w := by
  have h1 : w.cell? ⟨15, 1, none⟩ = some (.int .u8 1) := hg 1 (by decide)
  clear hg
  have hb1 : IntKind.u64.wrap (-2) = 18446744073709551614 := by kernel_rfl
  have hb2 : bits .and .u64 2 18446744073709551614 = 2 := by kernel_rfl
  have hb3 : IntKind.u64.wrap (2 * 285870213051353865) = 571740426102707730 := by kernel_rfl
  go_enter Tryd.func146, Tryd.ntmps146
  go_wp2
  go_ret
  exact ⟨rfl, rfl⟩
theorem bits2_ok (u : Nat) (w : World) (hg : Bruijn w) (hu : u < 18446744073709551616) :
    Calls Tryd.prog 133 #[.slice none 0 0, .int .u64 u, .int .i64 2, .bool false, .bool false] w fun e w' => e = .returned (.tuple #[.slice none 0 0, .string ⟨(digs 2 64 u).toArray⟩]) ∧ Below w.heap.size w w' := by
  have HG := Aside0.mk (hg.alloc (.cells Tryd.zeroCells202 202))
  clear hg
  go_enter Tryd.func133, Tryd.ntmps133
  go_wp2_with fail
  refine (pow_ok2 _).mono ?_
  rintro e w' ⟨rfl, rfl⟩
  go_wp2_with fail
  refine (tz_ok2 _ HG.out).mono ?_
  rintro e w' ⟨rfl, rfl⟩
  go_wp2_with fail
  go_loopw [1, 13] (fun m i wr => ∃ (M : Nat) (T : List UInt8), m = .int .u64 M ∧ i = .int .i64 ((65 : Int) - T.length) ∧ T.length ≤ 63 ∧ M < 2 ^ (64 - T.length) ∧ digs 2 64 u = digs 2 (64 - T.length) M ++ T ∧ Aside0 (Fm w T wr)) (fun m _ _ => (intOf m).toNat)
  case atStart => exact ⟨u, [], rfl, rfl, by simp, hu, by simp, ⟨⟨below_alloc (Below.refl _ _) _, _, by kernel_rfl, heap_alloc_new _ _, by simp, fun j h => by simp at h⟩⟩⟩
  case round =>
    obtain ⟨M, T, rfl, rfl, hT, hM, hdig, HF⟩ := hrel
    by_cases hlt : M < 2
    · have hMb : (M : Int) < 2 := by omega
      have hm36n : M < 36 := by omega
      have hm36 : (M : Int) < 36 := by omega
      obtain ⟨cs, hcs, hblk, hTl, hcells⟩ := HF.out.blk
      have hfz : wr.frozen? ⟨w.heap.size, 65 - T.length - 1, none⟩ = false := Lib.frozen_of_heap hblk _
      obtain ⟨v0, hold⟩ : ∃ v, wr.cell? ⟨w.heap.size, 65 - T.length - 1, none⟩ = some v := by
        rw [Lib.cell_of_heap hblk]
        exact ⟨_, Array.getElem?_eq_getElem (by omega)⟩
      have HP := Aside0.mk (HF.out.put (by omega) (sd M) _ (sd_lit ⟨M, hm36n⟩))
      have hlast : digs 2 (64 - T.length) M = [sd M] := by
        rw [show 64 - T.length = (63 - T.length) + 1 by omega, digs, if_pos hlt]
      rw [hlast] at hdig
      have HX := Aside0.mk hdig
      have harr : Tryd.prog.arrayLen 202 = 65 := by kernel_rfl
      have hsl : ∀ (W : World), (Instr.sliceAt 202 (.pointer (some ⟨w.heap.size, 0, none⟩)) (some (.int .i64 ((65 : Int) - T.length - 1))) none none).run Tryd.prog W = .ok (.slice (some ⟨w.heap.size, 65 - T.length - 1, none⟩) (T.length + 1) (T.length + 1)) W := by
        intro W
        have h := run_sliceAt_array_l (P := Tryd.prog) W 202 ⟨w.heap.size, 0, none⟩ (by kernel_rfl) .i64 ((65 : Int) - (T.length : Int) - 1) (by omega) (by rw [harr]; omega)
        rw [h, harr, show Tryd.prog.elem 202 = 5 by kernel_rfl, Tryd.sizeOf5]
        have ei : ((65 : Int) - (T.length : Int) - 1).toNat = 65 - T.length - 1 := by omega
        simp only [Result.andThen_ok, slicedAt, ei]
        rw [if_neg (by omega)]
        have e1 : 65 - (65 - T.length - 1) = T.length + 1 := by omega
        rw [e1]
        simp [Addr.add]
        omega
      have hcv := Fm.text HP.out
      rw [show 65 - (sd M :: T).length = 65 - T.length - 1 by simp only [List.length_cons]; omega] at hcv
      rw [List.length_cons] at hcv
      have HO := Aside0.mk (show digs 2 64 u = sd M :: T by rw [hdig]; rfl)
      have HB := Aside0.mk HP.out.below
      clear hM hdig hlast hblk hcells hcs HF harr HX HP
      go_wp2_with fail
      go_ret2
      rw [HO.out]
      exact ⟨rfl, HB.out⟩
    · have hge : (2 : Int) ≤ (M : Int) := by omega
      have hM64 : M < 18446744073709551616 := Nat.lt_of_lt_of_le hM (Nat.pow_le_pow_right (by decide) (by omega : 64 - T.length ≤ 64))
      obtain ⟨q, hq⟩ : ∃ q, q = M / 2 := ⟨_, rfl⟩
      obtain ⟨r, hr⟩ : ∃ r, r = M % 2 := ⟨_, rfl⟩
      obtain ⟨p, hpp⟩ : ∃ p, p = q * 2 := ⟨_, rfl⟩
      have hsum : p + r = M := by rw [hpp, hq, hr, Nat.mul_comm]; exact Nat.div_add_mod M 2
      have hrb : r < 2 := by rw [hr]; exact Nat.mod_lt _ (by omega)
      have hqM : q ≤ M := by rw [hq]; exact Nat.div_le_self M 2
      have hand : bits .and .u64 (M : Int) 1 = (r : Int) := by
        have h := bits_mask .u64 64 (by decide) (fun n h0 h1 => u64_wrap_id n h0 (by omega)) 1 (by decide) (M : Int) (by omega) (by omega)
        have h2 : (2 : Int) ^ 1 - 1 = 1 := by decide
        have h3 : (2 : Int) ^ 1 = 2 := by decide
        rw [h2, h3] at h
        rw [h, hr]
        omega
      have hdiv : (M : Int) / 2 = (q : Int) := by omega
      obtain ⟨cs, hcs, hblk, hTl, hcells⟩ := HF.out.blk
      have hfz : wr.frozen? ⟨w.heap.size, 65 - T.length - 1, none⟩ = false := Lib.frozen_of_heap hblk _
      obtain ⟨v0, hold⟩ : ∃ v, wr.cell? ⟨w.heap.size, 65 - T.length - 1, none⟩ = some v := by
        rw [Lib.cell_of_heap hblk]
        exact ⟨_, Array.getElem?_eq_getElem (by omega)⟩
      have hm36 : (r : Int) < 36 := by omega
      have hm36n : r < 36 := by omega
      have hlt2 : q < M := by rw [hq]; exact Nat.div_lt_self (by omega) (by omega)
      have hstep : digs 2 (64 - T.length) M = digs 2 (64 - (T.length + 1)) q ++ [sd r] := by
        have hf : 2 ≤ 64 - T.length := by
          rcases Nat.lt_or_ge (64 - T.length) 2 with h | h
          · have : M < 2 ^ 1 := Nat.lt_of_lt_of_le hM (Nat.pow_le_pow_right (by decide) (by omega))
            omega
          · exact h
        rw [show 64 - T.length = (64 - (T.length + 1)) + 1 by omega, digs, if_neg hlt, ← hq, ← hr]
      have hM2 : q < 2 ^ (64 - (T.length + 1)) ∧ T.length + 1 ≤ 63 := by
        have hf : 2 ≤ 64 - T.length := by
          rcases Nat.lt_or_ge (64 - T.length) 2 with h | h
          · have : M < 2 ^ 1 := Nat.lt_of_lt_of_le hM (Nat.pow_le_pow_right (by decide) (by omega))
            omega
          · exact h
        refine ⟨?_, by omega⟩
        have h2q : q * 2 ≤ M := by
          have h3 : q * 2 ≤ q * 2 := Nat.mul_le_mul_left q (by decide)
          omega
        have he : 2 ^ (64 - T.length) = 2 ^ (64 - (T.length + 1)) * 2 := by rw [← Nat.pow_succ]; congr 1; omega
        omega
      have HP := Aside0.mk (HF.out.put (by omega) (sd r) _ (sd_lit ⟨r, hm36n⟩))
      rw [hstep] at hdig
      have HX := Aside0.mk (And.intro hdig hM2)
      clear hM hdig hM2 hstep hq hr hpp hsum hblk hcells hcs hM64 hqM HF
      go_wp2_with fail
      go_roundw
      case rel => exact ⟨q, sd r :: T, rfl, by simp only [List.length_cons]; congr 1; push_cast; omega, HX.out.2.2, HX.out.2.1, by rw [HX.out.1]; simp, HP⟩
      case measure => simp [intOf]; omega
theorem pow_ok4 (w : World) : Calls Tryd.prog 145 #[.int .i64 4] w fun e w' => e = .returned (.bool true) ∧ w' = w := by
  go_enter Tryd.func145, Tryd.ntmps145
  go_wp2
  go_ret
  exact ⟨rfl, rfl⟩
theorem tz_ok4 (w : World) (hg : Bruijn w) : Calls Tryd.prog 146 #[.int .u64 4] w fun e w' => e = .returned (.int .i64 2) ∧ w' = w := by
  have h1 : w.cell? ⟨15, 3, none⟩ = some (.int .u8 2) := hg 3 (by decide)
  clear hg
  have hb1 : IntKind.u64.wrap (-4) = 18446744073709551612 := by kernel_rfl
  have hb2 : bits .and .u64 4 18446744073709551612 = 4 := by kernel_rfl
  have hb3 : IntKind.u64.wrap (4 * 285870213051353865) = 1143480852205415460 := by kernel_rfl
  go_enter Tryd.func146, Tryd.ntmps146
  go_wp2
  go_ret
  exact ⟨rfl, rfl⟩
theorem bits4_ok (u : Nat) (w : World) (hg : Bruijn w) (hu : u < 18446744073709551616) :
    Calls Tryd.prog 133 #[.slice none 0 0, .int .u64 u, .int .i64 4, .bool false, .bool false] w fun e w' => e = .returned (.tuple #[.slice none 0 0, .string ⟨(digs 4 64 u).toArray⟩]) ∧ Below w.heap.size w w' := by
  have HG := Aside0.mk (hg.alloc (.cells Tryd.zeroCells202 202))
  clear hg
  go_enter Tryd.func133, Tryd.ntmps133
  go_wp2_with fail
  refine (pow_ok4 _).mono ?_
  rintro e w' ⟨rfl, rfl⟩
  go_wp2_with fail
  refine (tz_ok4 _ HG.out).mono ?_
  rintro e w' ⟨rfl, rfl⟩
  go_wp2_with fail
  go_loopw [1, 13] (fun m i wr => ∃ (M : Nat) (T : List UInt8), m = .int .u64 M ∧ i = .int .i64 ((65 : Int) - T.length) ∧ T.length ≤ 63 ∧ M < 2 ^ (64 - T.length) ∧ digs 4 64 u = digs 4 (64 - T.length) M ++ T ∧ Aside0 (Fm w T wr)) (fun m _ _ => (intOf m).toNat)
  case atStart => exact ⟨u, [], rfl, rfl, by simp, hu, by simp, ⟨⟨below_alloc (Below.refl _ _) _, _, by kernel_rfl, heap_alloc_new _ _, by simp, fun j h => by simp at h⟩⟩⟩
  case round =>
    obtain ⟨M, T, rfl, rfl, hT, hM, hdig, HF⟩ := hrel
    by_cases hlt : M < 4
    · have hMb : (M : Int) < 4 := by omega
      have hm36n : M < 36 := by omega
      have hm36 : (M : Int) < 36 := by omega
      obtain ⟨cs, hcs, hblk, hTl, hcells⟩ := HF.out.blk
      have hfz : wr.frozen? ⟨w.heap.size, 65 - T.length - 1, none⟩ = false := Lib.frozen_of_heap hblk _
      obtain ⟨v0, hold⟩ : ∃ v, wr.cell? ⟨w.heap.size, 65 - T.length - 1, none⟩ = some v := by
        rw [Lib.cell_of_heap hblk]
        exact ⟨_, Array.getElem?_eq_getElem (by omega)⟩
      have HP := Aside0.mk (HF.out.put (by omega) (sd M) _ (sd_lit ⟨M, hm36n⟩))
      have hlast : digs 4 (64 - T.length) M = [sd M] := by
        rw [show 64 - T.length = (63 - T.length) + 1 by omega, digs, if_pos hlt]
      rw [hlast] at hdig
      have HX := Aside0.mk hdig
      have harr : Tryd.prog.arrayLen 202 = 65 := by kernel_rfl
      have hsl : ∀ (W : World), (Instr.sliceAt 202 (.pointer (some ⟨w.heap.size, 0, none⟩)) (some (.int .i64 ((65 : Int) - T.length - 1))) none none).run Tryd.prog W = .ok (.slice (some ⟨w.heap.size, 65 - T.length - 1, none⟩) (T.length + 1) (T.length + 1)) W := by
        intro W
        have h := run_sliceAt_array_l (P := Tryd.prog) W 202 ⟨w.heap.size, 0, none⟩ (by kernel_rfl) .i64 ((65 : Int) - (T.length : Int) - 1) (by omega) (by rw [harr]; omega)
        rw [h, harr, show Tryd.prog.elem 202 = 5 by kernel_rfl, Tryd.sizeOf5]
        have ei : ((65 : Int) - (T.length : Int) - 1).toNat = 65 - T.length - 1 := by omega
        simp only [Result.andThen_ok, slicedAt, ei]
        rw [if_neg (by omega)]
        have e1 : 65 - (65 - T.length - 1) = T.length + 1 := by omega
        rw [e1]
        simp [Addr.add]
        omega
      have hcv := Fm.text HP.out
      rw [show 65 - (sd M :: T).length = 65 - T.length - 1 by simp only [List.length_cons]; omega] at hcv
      rw [List.length_cons] at hcv
      have HO := Aside0.mk (show digs 4 64 u = sd M :: T by rw [hdig]; rfl)
      have HB := Aside0.mk HP.out.below
      clear hM hdig hlast hblk hcells hcs HF harr HX HP
      go_wp2_with fail
      go_ret2
      rw [HO.out]
      exact ⟨rfl, HB.out⟩
    · have hge : (4 : Int) ≤ (M : Int) := by omega
      have hM64 : M < 18446744073709551616 := Nat.lt_of_lt_of_le hM (Nat.pow_le_pow_right (by decide) (by omega : 64 - T.length ≤ 64))
      obtain ⟨q, hq⟩ : ∃ q, q = M / 4 := ⟨_, rfl⟩
      obtain ⟨r, hr⟩ : ∃ r, r = M % 4 := ⟨_, rfl⟩
      obtain ⟨p, hpp⟩ : ∃ p, p = q * 4 := ⟨_, rfl⟩
      have hsum : p + r = M := by rw [hpp, hq, hr, Nat.mul_comm]; exact Nat.div_add_mod M 4
      have hrb : r < 4 := by rw [hr]; exact Nat.mod_lt _ (by omega)
      have hqM : q ≤ M := by rw [hq]; exact Nat.div_le_self M 4
      have hand : bits .and .u64 (M : Int) 3 = (r : Int) := by
        have h := bits_mask .u64 64 (by decide) (fun n h0 h1 => u64_wrap_id n h0 (by omega)) 2 (by decide) (M : Int) (by omega) (by omega)
        have h2 : (2 : Int) ^ 2 - 1 = 3 := by decide
        have h3 : (2 : Int) ^ 2 = 4 := by decide
        rw [h2, h3] at h
        rw [h, hr]
        omega
      have hdiv : (M : Int) / 4 = (q : Int) := by omega
      obtain ⟨cs, hcs, hblk, hTl, hcells⟩ := HF.out.blk
      have hfz : wr.frozen? ⟨w.heap.size, 65 - T.length - 1, none⟩ = false := Lib.frozen_of_heap hblk _
      obtain ⟨v0, hold⟩ : ∃ v, wr.cell? ⟨w.heap.size, 65 - T.length - 1, none⟩ = some v := by
        rw [Lib.cell_of_heap hblk]
        exact ⟨_, Array.getElem?_eq_getElem (by omega)⟩
      have hm36 : (r : Int) < 36 := by omega
      have hm36n : r < 36 := by omega
      have hlt2 : q < M := by rw [hq]; exact Nat.div_lt_self (by omega) (by omega)
      have hstep : digs 4 (64 - T.length) M = digs 4 (64 - (T.length + 1)) q ++ [sd r] := by
        have hf : 2 ≤ 64 - T.length := by
          rcases Nat.lt_or_ge (64 - T.length) 2 with h | h
          · have : M < 2 ^ 1 := Nat.lt_of_lt_of_le hM (Nat.pow_le_pow_right (by decide) (by omega))
            omega
          · exact h
        rw [show 64 - T.length = (64 - (T.length + 1)) + 1 by omega, digs, if_neg hlt, ← hq, ← hr]
      have hM2 : q < 2 ^ (64 - (T.length + 1)) ∧ T.length + 1 ≤ 63 := by
        have hf : 2 ≤ 64 - T.length := by
          rcases Nat.lt_or_ge (64 - T.length) 2 with h | h
          · have : M < 2 ^ 1 := Nat.lt_of_lt_of_le hM (Nat.pow_le_pow_right (by decide) (by omega))
            omega
          · exact h
        refine ⟨?_, by omega⟩
        have h2q : q * 2 ≤ M := by
          have h3 : q * 2 ≤ q * 4 := Nat.mul_le_mul_left q (by decide)
          omega
        have he : 2 ^ (64 - T.length) = 2 ^ (64 - (T.length + 1)) * 2 := by rw [← Nat.pow_succ]; congr 1; omega
        omega
      have HP := Aside0.mk (HF.out.put (by omega) (sd r) _ (sd_lit ⟨r, hm36n⟩))
      rw [hstep] at hdig
      have HX := Aside0.mk (And.intro hdig hM2)
      clear hM hdig hM2 hstep hq hr hpp hsum hblk hcells hcs hM64 hqM HF
      go_wp2_with fail
      go_roundw
      case rel => exact ⟨q, sd r :: T, rfl, by simp only [List.length_cons]; congr 1; push_cast; omega, HX.out.2.2, HX.out.2.1, by rw [HX.out.1]; simp, HP⟩
      case measure => simp [intOf]; omega
theorem pow_ok8 (w : World) : Calls Tryd.prog 145 #[.int .i64 8] w fun e w' => e = .returned (.bool true) ∧ w' = w := by
  go_enter Tryd.func145, Tryd.ntmps145
  go_wp2
  go_ret
  exact ⟨rfl, rfl⟩
theorem tz_ok8 (w : World) (hg : Bruijn w) : Calls Tryd.prog 146 #[.int .u64 8] w fun e w' => e = .returned (.int .i64 3) ∧ w' = w := by
  have h1 : w.cell? ⟨15, 7, none⟩ = some (.int .u8 3) := hg 7 (by decide)
  clear hg
  have hb1 : IntKind.u64.wrap (-8) = 18446744073709551608 := by kernel_rfl
  have hb2 : bits .and .u64 8 18446744073709551608 = 8 := by kernel_rfl
  have hb3 : IntKind.u64.wrap (8 * 285870213051353865) = 2286961704410830920 := by kernel_rfl
  go_enter Tryd.func146, Tryd.ntmps146
  go_wp2
  go_ret
  exact ⟨rfl, rfl⟩
theorem bits8_ok (u : Nat) (w : World) (hg : Bruijn w) (hu : u < 18446744073709551616) :
    Calls Tryd.prog 133 #[.slice none 0 0, .int .u64 u, .int .i64 8, .bool false, .bool false] w fun e w' => e = .returned (.tuple #[.slice none 0 0, .string ⟨(digs 8 64 u).toArray⟩]) ∧ Below w.heap.size w w' := by
  have HG := Aside0.mk (hg.alloc (.cells Tryd.zeroCells202 202))
  clear hg
  go_enter Tryd.func133, Tryd.ntmps133
  go_wp2_with fail
  refine (pow_ok8 _).mono ?_
  rintro e w' ⟨rfl, rfl⟩
  go_wp2_with fail
  refine (tz_ok8 _ HG.out).mono ?_
  rintro e w' ⟨rfl, rfl⟩
  go_wp2_with fail
  go_loopw [1, 13] (fun m i wr => ∃ (M : Nat) (T : List UInt8), m = .int .u64 M ∧ i = .int .i64 ((65 : Int) - T.length) ∧ T.length ≤ 63 ∧ M < 2 ^ (64 - T.length) ∧ digs 8 64 u = digs 8 (64 - T.length) M ++ T ∧ Aside0 (Fm w T wr)) (fun m _ _ => (intOf m).toNat)
  case atStart => exact ⟨u, [], rfl, rfl, by simp, hu, by simp, ⟨⟨below_alloc (Below.refl _ _) _, _, by kernel_rfl, heap_alloc_new _ _, by simp, fun j h => by simp at h⟩⟩⟩
  case round =>
    obtain ⟨M, T, rfl, rfl, hT, hM, hdig, HF⟩ := hrel
    by_cases hlt : M < 8
    · have hMb : (M : Int) < 8 := by omega
      have hm36n : M < 36 := by omega
      have hm36 : (M : Int) < 36 := by omega
      obtain ⟨cs, hcs, hblk, hTl, hcells⟩ := HF.out.blk
      have hfz : wr.frozen? ⟨w.heap.size, 65 - T.length - 1, none⟩ = false := Lib.frozen_of_heap hblk _
      obtain ⟨v0, hold⟩ : ∃ v, wr.cell? ⟨w.heap.size, 65 - T.length - 1, none⟩ = some v := by
        rw [Lib.cell_of_heap hblk]
        exact ⟨_, Array.getElem?_eq_getElem (by omega)⟩
      have HP := Aside0.mk (HF.out.put (by omega) (sd M) _ (sd_lit ⟨M, hm36n⟩))
      have hlast : digs 8 (64 - T.length) M = [sd M] := by
        rw [show 64 - T.length = (63 - T.length) + 1 by omega, digs, if_pos hlt]
      rw [hlast] at hdig
      have HX := Aside0.mk hdig
      have harr : Tryd.prog.arrayLen 202 = 65 := by kernel_rfl
      have hsl : ∀ (W : World), (Instr.sliceAt 202 (.pointer (some ⟨w.heap.size, 0, none⟩)) (some (.int .i64 ((65 : Int) - T.length - 1))) none none).run Tryd.prog W = .ok (.slice (some ⟨w.heap.size, 65 - T.length - 1, none⟩) (T.length + 1) (T.length + 1)) W := by
        intro W
        have h := run_sliceAt_array_l (P := Tryd.prog) W 202 ⟨w.heap.size, 0, none⟩ (by kernel_rfl) .i64 ((65 : Int) - (T.length : Int) - 1) (by omega) (by rw [harr]; omega)
        rw [h, harr, show Tryd.prog.elem 202 = 5 by kernel_rfl, Tryd.sizeOf5]
        have ei : ((65 : Int) - (T.length : Int) - 1).toNat = 65 - T.length - 1 := by omega
        simp only [Result.andThen_ok, slicedAt, ei]
        rw [if_neg (by omega)]
        have e1 : 65 - (65 - T.length - 1) = T.length + 1 := by omega
        rw [e1]
        simp [Addr.add]
        omega
      have hcv := Fm.text HP.out
      rw [show 65 - (sd M :: T).length = 65 - T.length - 1 by simp only [List.length_cons]; omega] at hcv
      rw [List.length_cons] at hcv
      have HO := Aside0.mk (show digs 8 64 u = sd M :: T by rw [hdig]; rfl)
      have HB := Aside0.mk HP.out.below
      clear hM hdig hlast hblk hcells hcs HF harr HX HP
      go_wp2_with fail
      go_ret2
      rw [HO.out]
      exact ⟨rfl, HB.out⟩
    · have hge : (8 : Int) ≤ (M : Int) := by omega
      have hM64 : M < 18446744073709551616 := Nat.lt_of_lt_of_le hM (Nat.pow_le_pow_right (by decide) (by omega : 64 - T.length ≤ 64))
      obtain ⟨q, hq⟩ : ∃ q, q = M / 8 := ⟨_, rfl⟩
      obtain ⟨r, hr⟩ : ∃ r, r = M % 8 := ⟨_, rfl⟩
      obtain ⟨p, hpp⟩ : ∃ p, p = q * 8 := ⟨_, rfl⟩
      have hsum : p + r = M := by rw [hpp, hq, hr, Nat.mul_comm]; exact Nat.div_add_mod M 8
      have hrb : r < 8 := by rw [hr]; exact Nat.mod_lt _ (by omega)
      have hqM : q ≤ M := by rw [hq]; exact Nat.div_le_self M 8
      have hand : bits .and .u64 (M : Int) 7 = (r : Int) := by
        have h := bits_mask .u64 64 (by decide) (fun n h0 h1 => u64_wrap_id n h0 (by omega)) 3 (by decide) (M : Int) (by omega) (by omega)
        have h2 : (2 : Int) ^ 3 - 1 = 7 := by decide
        have h3 : (2 : Int) ^ 3 = 8 := by decide
        rw [h2, h3] at h
        rw [h, hr]
        omega
      have hdiv : (M : Int) / 8 = (q : Int) := by omega
      obtain ⟨cs, hcs, hblk, hTl, hcells⟩ := HF.out.blk
      have hfz : wr.frozen? ⟨w.heap.size, 65 - T.length - 1, none⟩ = false := Lib.frozen_of_heap hblk _
      obtain ⟨v0, hold⟩ : ∃ v, wr.cell? ⟨w.heap.size, 65 - T.length - 1, none⟩ = some v := by
        rw [Lib.cell_of_heap hblk]
        exact ⟨_, Array.getElem?_eq_getElem (by omega)⟩
      have hm36 : (r : Int) < 36 := by omega
      have hm36n : r < 36 := by omega
      have hlt2 : q < M := by rw [hq]; exact Nat.div_lt_self (by omega) (by omega)
      have hstep : digs 8 (64 - T.length) M = digs 8 (64 - (T.length + 1)) q ++ [sd r] := by
        have hf : 2 ≤ 64 - T.length := by
          rcases Nat.lt_or_ge (64 - T.length) 2 with h | h
          · have : M < 2 ^ 1 := Nat.lt_of_lt_of_le hM (Nat.pow_le_pow_right (by decide) (by omega))
            omega
          · exact h
        rw [show 64 - T.length = (64 - (T.length + 1)) + 1 by omega, digs, if_neg hlt, ← hq, ← hr]
      have hM2 : q < 2 ^ (64 - (T.length + 1)) ∧ T.length + 1 ≤ 63 := by
        have hf : 2 ≤ 64 - T.length := by
          rcases Nat.lt_or_ge (64 - T.length) 2 with h | h
          · have : M < 2 ^ 1 := Nat.lt_of_lt_of_le hM (Nat.pow_le_pow_right (by decide) (by omega))
            omega
          · exact h
        refine ⟨?_, by omega⟩
        have h2q : q * 2 ≤ M := by
          have h3 : q * 2 ≤ q * 8 := Nat.mul_le_mul_left q (by decide)
          omega
        have he : 2 ^ (64 - T.length) = 2 ^ (64 - (T.length + 1)) * 2 := by rw [← Nat.pow_succ]; congr 1; omega
        omega
      have HP := Aside0.mk (HF.out.put (by omega) (sd r) _ (sd_lit ⟨r, hm36n⟩))
      rw [hstep] at hdig
      have HX := Aside0.mk (And.intro hdig hM2)
      clear hM hdig hM2 hstep hq hr hpp hsum hblk hcells hcs hM64 hqM HF
      go_wp2_with fail
      go_roundw
      case rel => exact ⟨q, sd r :: T, rfl, by simp only [List.length_cons]; congr 1; push_cast; omega, HX.out.2.2, HX.out.2.1, by rw [HX.out.1]; simp, HP⟩
      case measure => simp [intOf]; omega
theorem pow_ok16 (w : World) : Calls Tryd.prog 145 #[.int .i64 16] w fun e w' => e = .returned (.bool true) ∧ w' = w := by
  go_enter Tryd.func145, Tryd.ntmps145
  go_wp2
  go_ret
  exact ⟨rfl, rfl⟩
theorem tz_ok16 (w : World) (hg : Bruijn w) : Calls Tryd.prog 146 #[.int .u64 16] w fun e w' => e = .returned (.int .i64 4) ∧ w' = w := by
  have h1 : w.cell? ⟨15, 15, none⟩ = some (.int .u8 4) := hg 15 (by decide)
  clear hg
  have hb1 : IntKind.u64.wrap (-16) = 18446744073709551600 := by kernel_rfl
  have hb2 : bits .and .u64 16 18446744073709551600 = 16 := by kernel_rfl
  have hb3 : IntKind.u64.wrap (16 * 285870213051353865) = 4573923408821661840 := by kernel_rfl
  go_enter Tryd.func146, Tryd.ntmps146
  go_wp2
  go_ret
  exact ⟨rfl, rfl⟩
theorem bits16_ok (u : Nat) (w : World) (hg : Bruijn w) (hu : u < 18446744073709551616) :
    Calls Tryd.prog 133 #[.slice none 0 0, .int .u64 u, .int .i64 16, .bool false, .bool false] w fun e w' => e = .returned (.tuple #[.slice none 0 0, .string ⟨(digs 16 64 u).toArray⟩]) ∧ Below w.heap.size w w' := by
  have HG := Aside0.mk (hg.alloc (.cells Tryd.zeroCells202 202))
  clear hg
  go_enter Tryd.func133, Tryd.ntmps133
  go_wp2_with fail
  refine (pow_ok16 _).mono ?_
  rintro e w' ⟨rfl, rfl⟩
  go_wp2_with fail
  refine (tz_ok16 _ HG.out).mono ?_
  rintro e w' ⟨rfl, rfl⟩
  go_wp2_with fail
  go_loopw [1, 13] (fun m i wr => ∃ (M : Nat) (T : List UInt8), m = .int .u64 M ∧ i = .int .i64 ((65 : Int) - T.length) ∧ T.length ≤ 63 ∧ M < 2 ^ (64 - T.length) ∧ digs 16 64 u = digs 16 (64 - T.length) M ++ T ∧ Aside0 (Fm w T wr)) (fun m _ _ => (intOf m).toNat)
  case atStart => exact ⟨u, [], rfl, rfl, by simp, hu, by simp, ⟨⟨below_alloc (Below.refl _ _) _, _, by kernel_rfl, heap_alloc_new _ _, by simp, fun j h => by simp at h⟩⟩⟩
  case round =>
    obtain ⟨M, T, rfl, rfl, hT, hM, hdig, HF⟩ := hrel
    by_cases hlt : M < 16
    · have hMb : (M : Int) < 16 := by omega
      have hm36n : M < 36 := by omega
      have hm36 : (M : Int) < 36 := by omega
      obtain ⟨cs, hcs, hblk, hTl, hcells⟩ := HF.out.blk
      have hfz : wr.frozen? ⟨w.heap.size, 65 - T.length - 1, none⟩ = false := Lib.frozen_of_heap hblk _
      obtain ⟨v0, hold⟩ : ∃ v, wr.cell? ⟨w.heap.size, 65 - T.length - 1, none⟩ = some v := by
        rw [Lib.cell_of_heap hblk]
        exact ⟨_, Array.getElem?_eq_getElem (by omega)⟩
      have HP := Aside0.mk (HF.out.put (by omega) (sd M) _ (sd_lit ⟨M, hm36n⟩))
      have hlast : digs 16 (64 - T.length) M = [sd M] := by
        rw [show 64 - T.length = (63 - T.length) + 1 by omega, digs, if_pos hlt]
      rw [hlast] at hdig
      have HX := Aside0.mk hdig
      have harr : Tryd.prog.arrayLen 202 = 65 := by kernel_rfl
      have hsl : ∀ (W : World), (Instr.sliceAt 202 (.pointer (some ⟨w.heap.size, 0, none⟩)) (some (.int .i64 ((65 : Int) - T.length - 1))) none none).run Tryd.prog W = .ok (.slice (some ⟨w.heap.size, 65 - T.length - 1, none⟩) (T.length + 1) (T.length + 1)) W := by
        intro W
        have h := run_sliceAt_array_l (P := Tryd.prog) W 202 ⟨w.heap.size, 0, none⟩ (by kernel_rfl) .i64 ((65 : Int) - (T.length : Int) - 1) (by omega) (by rw [harr]; omega)
        rw [h, harr, show Tryd.prog.elem 202 = 5 by kernel_rfl, Tryd.sizeOf5]
        have ei : ((65 : Int) - (T.length : Int) - 1).toNat = 65 - T.length - 1 := by omega
        simp only [Result.andThen_ok, slicedAt, ei]
        rw [if_neg (by omega)]
        have e1 : 65 - (65 - T.length - 1) = T.length + 1 := by omega
        rw [e1]
        simp [Addr.add]
        omega
      have hcv := Fm.text HP.out
      rw [show 65 - (sd M :: T).length = 65 - T.length - 1 by simp only [List.length_cons]; omega] at hcv
      rw [List.length_cons] at hcv
      have HO := Aside0.mk (show digs 16 64 u = sd M :: T by rw [hdig]; rfl)
      have HB := Aside0.mk HP.out.below
      clear hM hdig hlast hblk hcells hcs HF harr HX HP
      go_wp2_with fail
      go_ret2
      rw [HO.out]
      exact ⟨rfl, HB.out⟩
    · have hge : (16 : Int) ≤ (M : Int) := by omega
      have hM64 : M < 18446744073709551616 := Nat.lt_of_lt_of_le hM (Nat.pow_le_pow_right (by decide) (by omega : 64 - T.length ≤ 64))
      obtain ⟨q, hq⟩ : ∃ q, q = M / 16 := ⟨_, rfl⟩
      obtain ⟨r, hr⟩ : ∃ r, r = M % 16 := ⟨_, rfl⟩
      obtain ⟨p, hpp⟩ : ∃ p, p = q * 16 := ⟨_, rfl⟩
      have hsum : p + r = M := by rw [hpp, hq, hr, Nat.mul_comm]; exact Nat.div_add_mod M 16
      have hrb : r < 16 := by rw [hr]; exact Nat.mod_lt _ (by omega)
      have hqM : q ≤ M := by rw [hq]; exact Nat.div_le_self M 16
      have hand : bits .and .u64 (M : Int) 15 = (r : Int) := by
        have h := bits_mask .u64 64 (by decide) (fun n h0 h1 => u64_wrap_id n h0 (by omega)) 4 (by decide) (M : Int) (by omega) (by omega)
        have h2 : (2 : Int) ^ 4 - 1 = 15 := by decide
        have h3 : (2 : Int) ^ 4 = 16 := by decide
        rw [h2, h3] at h
        rw [h, hr]
        omega
      have hdiv : (M : Int) / 16 = (q : Int) := by omega
      obtain ⟨cs, hcs, hblk, hTl, hcells⟩ := HF.out.blk
      have hfz : wr.frozen? ⟨w.heap.size, 65 - T.length - 1, none⟩ = false := Lib.frozen_of_heap hblk _
      obtain ⟨v0, hold⟩ : ∃ v, wr.cell? ⟨w.heap.size, 65 - T.length - 1, none⟩ = some v := by
        rw [Lib.cell_of_heap hblk]
        exact ⟨_, Array.getElem?_eq_getElem (by omega)⟩
      have hm36 : (r : Int) < 36 := by omega
      have hm36n : r < 36 := by omega
      have hlt2 : q < M := by rw [hq]; exact Nat.div_lt_self (by omega) (by omega)
      have hstep : digs 16 (64 - T.length) M = digs 16 (64 - (T.length + 1)) q ++ [sd r] := by
        have hf : 2 ≤ 64 - T.length := by
          rcases Nat.lt_or_ge (64 - T.length) 2 with h | h
          · have : M < 2 ^ 1 := Nat.lt_of_lt_of_le hM (Nat.pow_le_pow_right (by decide) (by omega))
            omega
          · exact h
        rw [show 64 - T.length = (64 - (T.length + 1)) + 1 by omega, digs, if_neg hlt, ← hq, ← hr]
      have hM2 : q < 2 ^ (64 - (T.length + 1)) ∧ T.length + 1 ≤ 63 := by
        have hf : 2 ≤ 64 - T.length := by
          rcases Nat.lt_or_ge (64 - T.length) 2 with h | h
          · have : M < 2 ^ 1 := Nat.lt_of_lt_of_le hM (Nat.pow_le_pow_right (by decide) (by omega))
            omega
          · exact h
        refine ⟨?_, by omega⟩
        have h2q : q * 2 ≤ M := by
          have h3 : q * 2 ≤ q * 16 := Nat.mul_le_mul_left q (by decide)
          omega
        have he : 2 ^ (64 - T.length) = 2 ^ (64 - (T.length + 1)) * 2 := by rw [← Nat.pow_succ]; congr 1; omega
        omega
      have HP := Aside0.mk (HF.out.put (by omega) (sd r) _ (sd_lit ⟨r, hm36n⟩))
      rw [hstep] at hdig
      have HX := Aside0.mk (And.intro hdig hM2)
      clear hM hdig hM2 hstep hq hr hpp hsum hblk hcells hcs hM64 hqM HF
      go_wp2_with fail
      go_roundw
      case rel => exact ⟨q, sd r :: T, rfl, by simp only [List.length_cons]; congr 1; push_cast; omega, HX.out.2.2, HX.out.2.1, by rw [HX.out.1]; simp, HP⟩
      case measure => simp [intOf]; omega
theorem pow_ok32 (w : World) : Calls Tryd.prog 145 #[.int .i64 32] w fun e w' => e = .returned (.bool true) ∧ w' = w := by
  go_enter Tryd.func145, Tryd.ntmps145
  go_wp2
  go_ret
  exact ⟨rfl, rfl⟩
theorem tz_ok32 (w : World) (hg : Bruijn w) : Calls Tryd.prog 146 #[.int .u64 32] w fun e w' => e = .returned (.int .i64 5) ∧ w' = w := by
  have h1 : w.cell? ⟨15, 31, none⟩ = some (.int .u8 5) := hg 31 (by decide)
  clear hg
  have hb1 : IntKind.u64.wrap (-32) = 18446744073709551584 := by kernel_rfl
  have hb2 : bits .and .u64 32 18446744073709551584 = 32 := by kernel_rfl
  have hb3 : IntKind.u64.wrap (32 * 285870213051353865) = 9147846817643323680 := by kernel_rfl
  go_enter Tryd.func146, Tryd.ntmps146
  go_wp2
  go_ret
  exact ⟨rfl, rfl⟩
theorem bits32_ok (u : Nat) (w : World) (hg : Bruijn w) (hu : u < 18446744073709551616) :
    Calls Tryd.prog 133 #[.slice none 0 0, .int .u64 u, .int .i64 32, .bool false, .bool false] w fun e w' => e = .returned (.tuple #[.slice none 0 0, .string ⟨(digs 32 64 u).toArray⟩]) ∧ Below w.heap.size w w' := by
  have HG := Aside0.mk (hg.alloc (.cells Tryd.zeroCells202 202))
  clear hg
  go_enter Tryd.func133, Tryd.ntmps133
  go_wp2_with fail
  refine (pow_ok32 _).mono ?_
  rintro e w' ⟨rfl, rfl⟩
  go_wp2_with fail
  refine (tz_ok32 _ HG.out).mono ?_
  rintro e w' ⟨rfl, rfl⟩
  go_wp2_with fail
  go_loopw [1, 13] (fun m i wr => ∃ (M : Nat) (T : List UInt8), m = .int .u64 M ∧ i = .int .i64 ((65 : Int) - T.length) ∧ T.length ≤ 63 ∧ M < 2 ^ (64 - T.length) ∧ digs 32 64 u = digs 32 (64 - T.length) M ++ T ∧ Aside0 (Fm w T wr)) (fun m _ _ => (intOf m).toNat)
  case atStart => exact ⟨u, [], rfl, rfl, by simp, hu, by simp, ⟨⟨below_alloc (Below.refl _ _) _, _, by kernel_rfl, heap_alloc_new _ _, by simp, fun j h => by simp at h⟩⟩⟩
  case round =>
    obtain ⟨M, T, rfl, rfl, hT, hM, hdig, HF⟩ := hrel
    by_cases hlt : M < 32
    · have hMb : (M : Int) < 32 := by omega
      have hm36n : M < 36 := by omega
      have hm36 : (M : Int) < 36 := by omega
      obtain ⟨cs, hcs, hblk, hTl, hcells⟩ := HF.out.blk
      have hfz : wr.frozen? ⟨w.heap.size, 65 - T.length - 1, none⟩ = false := Lib.frozen_of_heap hblk _
      obtain ⟨v0, hold⟩ : ∃ v, wr.cell? ⟨w.heap.size, 65 - T.length - 1, none⟩ = some v := by
        rw [Lib.cell_of_heap hblk]
        exact ⟨_, Array.getElem?_eq_getElem (by omega)⟩
      have HP := Aside0.mk (HF.out.put (by omega) (sd M) _ (sd_lit ⟨M, hm36n⟩))
      have hlast : digs 32 (64 - T.length) M = [sd M] := by
        rw [show 64 - T.length = (63 - T.length) + 1 by omega, digs, if_pos hlt]
      rw [hlast] at hdig
      have HX := Aside0.mk hdig
      have harr : Tryd.prog.arrayLen 202 = 65 := by kernel_rfl
      have hsl : ∀ (W : World), (Instr.sliceAt 202 (.pointer (some ⟨w.heap.size, 0, none⟩)) (some (.int .i64 ((65 : Int) - T.length - 1))) none none).run Tryd.prog W = .ok (.slice (some ⟨w.heap.size, 65 - T.length - 1, none⟩) (T.length + 1) (T.length + 1)) W := by
        intro W
        have h := run_sliceAt_array_l (P := Tryd.prog) W 202 ⟨w.heap.size, 0, none⟩ (by kernel_rfl) .i64 ((65 : Int) - (T.length : Int) - 1) (by omega) (by rw [harr]; omega)
        rw [h, harr, show Tryd.prog.elem 202 = 5 by kernel_rfl, Tryd.sizeOf5]
        have ei : ((65 : Int) - (T.length : Int) - 1).toNat = 65 - T.length - 1 := by omega
        simp only [Result.andThen_ok, slicedAt, ei]
        rw [if_neg (by omega)]
        have e1 : 65 - (65 - T.length - 1) = T.length + 1 := by omega
        rw [e1]
        simp [Addr.add]
        omega
      have hcv := Fm.text HP.out
      rw [show 65 - (sd M :: T).length = 65 - T.length - 1 by simp only [List.length_cons]; omega] at hcv
      rw [List.length_cons] at hcv
      have HO := Aside0.mk (show digs 32 64 u = sd M :: T by rw [hdig]; rfl)
      have HB := Aside0.mk HP.out.below
      clear hM hdig hlast hblk hcells hcs HF harr HX HP
      go_wp2_with fail
      go_ret2
      rw [HO.out]
      exact ⟨rfl, HB.out⟩
    · have hge : (32 : Int) ≤ (M : Int) := by omega
      have hM64 : M < 18446744073709551616 := Nat.lt_of_lt_of_le hM (Nat.pow_le_pow_right (by decide) (by omega : 64 - T.length ≤ 64))
      obtain ⟨q, hq⟩ : ∃ q, q = M / 32 := ⟨_, rfl⟩
      obtain ⟨r, hr⟩ : ∃ r, r = M % 32 := ⟨_, rfl⟩
      obtain ⟨p, hpp⟩ : ∃ p, p = q * 32 := ⟨_, rfl⟩
      have hsum : p + r = M := by rw [hpp, hq, hr, Nat.mul_comm]; exact Nat.div_add_mod M 32
      have hrb : r < 32 := by rw [hr]; exact Nat.mod_lt _ (by omega)
      have hqM : q ≤ M := by rw [hq]; exact Nat.div_le_self M 32
      have hand : bits .and .u64 (M : Int) 31 = (r : Int) := by
        have h := bits_mask .u64 64 (by decide) (fun n h0 h1 => u64_wrap_id n h0 (by omega)) 5 (by decide) (M : Int) (by omega) (by omega)
        have h2 : (2 : Int) ^ 5 - 1 = 31 := by decide
        have h3 : (2 : Int) ^ 5 = 32 := by decide
        rw [h2, h3] at h
        rw [h, hr]
        omega
      have hdiv : (M : Int) / 32 = (q : Int) := by omega
      obtain ⟨cs, hcs, hblk, hTl, hcells⟩ := HF.out.blk
      have hfz : wr.frozen? ⟨w.heap.size, 65 - T.length - 1, none⟩ = false := Lib.frozen_of_heap hblk _
      obtain ⟨v0, hold⟩ : ∃ v, wr.cell? ⟨w.heap.size, 65 - T.length - 1, none⟩ = some v := by
        rw [Lib.cell_of_heap hblk]
        exact ⟨_, Array.getElem?_eq_getElem (by omega)⟩
      have hm36 : (r : Int) < 36 := by omega
      have hm36n : r < 36 := by omega
      have hlt2 : q < M := by rw [hq]; exact Nat.div_lt_self (by omega) (by omega)
      have hstep : digs 32 (64 - T.length) M = digs 32 (64 - (T.length + 1)) q ++ [sd r] := by
        have hf : 2 ≤ 64 - T.length := by
          rcases Nat.lt_or_ge (64 - T.length) 2 with h | h
          · have : M < 2 ^ 1 := Nat.lt_of_lt_of_le hM (Nat.pow_le_pow_right (by decide) (by omega))
            omega
          · exact h
        rw [show 64 - T.length = (64 - (T.length + 1)) + 1 by omega, digs, if_neg hlt, ← hq, ← hr]
      have hM2 : q < 2 ^ (64 - (T.length + 1)) ∧ T.length + 1 ≤ 63 := by
        have hf : 2 ≤ 64 - T.length := by
          rcases Nat.lt_or_ge (64 - T.length) 2 with h | h
          · have : M < 2 ^ 1 := Nat.lt_of_lt_of_le hM (Nat.pow_le_pow_right (by decide) (by omega))
            omega
          · exact h
        refine ⟨?_, by omega⟩
        have h2q : q * 2 ≤ M := by
          have h3 : q * 2 ≤ q * 32 := Nat.mul_le_mul_left q (by decide)
          omega
        have he : 2 ^ (64 - T.length) = 2 ^ (64 - (T.length + 1)) * 2 := by rw [← Nat.pow_succ]; congr 1; omega
        omega
      have HP := Aside0.mk (HF.out.put (by omega) (sd r) _ (sd_lit ⟨r, hm36n⟩))
      rw [hstep] at hdig
      have HX := Aside0.mk (And.intro hdig hM2)
      clear hM hdig hM2 hstep hq hr hpp hsum hblk hcells hcs hM64 hqM HF
      go_wp2_with fail
      go_roundw
      case rel => exact ⟨q, sd r :: T, rfl, by simp only [List.length_cons]; congr 1; push_cast; omega, HX.out.2.2, HX.out.2.1, by rw [HX.out.1]; simp, HP⟩
      case measure => simp [intOf]; omega
end Go.Proofs.YthicaehcoingeaaDoor.PTV
