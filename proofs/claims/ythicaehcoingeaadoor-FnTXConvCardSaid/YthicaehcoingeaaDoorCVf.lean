/-
  Contract of internal/strconv.formatBits at a number and a base from 2 to 36 other than 10: its digits, small letters. math/bits.deBruijn64tab as laid.
-/
import Derived.Test.YthicaehcoingeaaDoorCVp
import Derived.Lib.EndianBits
import Derived.Lib.Builder
namespace Go.Proofs.YthicaehcoingeaaDoor.PTV
open Go.RowKit Go.Proofs.YthicaehcoingeaaDoorW.PrintWords Go.Proofs.YthicaehcoingeaaDoorW.PrintLast Go.Proofs.YthicaehcoingeaaDoorW.PrintMore
set_option linter.unusedVariables false
set_option linter.unusedSimpArgs false
set_option maxRecDepth 1000000
set_option maxHeartbeats 2000000

/-- a small digit -/
def sd (n : Nat) : UInt8 := if n < 10 then UInt8.ofNat (48 + n) else UInt8.ofNat (87 + n)
/-- the digits of n in base b, small letters -/
def digs (b : Nat) : Nat → Nat → List UInt8
  | 0, n => []
  | k + 1, n => if n < b then [sd n] else digs b k (n / b) ++ [sd (n % b)]

structure Fm (w : World) (T : List UInt8) (wr : World) : Prop where
  below : Below w.heap.size w wr
  blk : ∃ cs : Array Value, cs.size = 65 ∧ wr.heap[w.heap.size]? = some (.cells cs 202 (0, 0)) ∧ T.length ≤ 65 ∧ ∀ j (h : j < T.length), cs[65 - T.length + j]? = some (.int .u8 (T[j].toNat : Int))

theorem sd_lit : ∀ k : Fin 36, (((⟨#[48, 49, 50, 51, 52, 53, 54, 55, 56, 57, 97, 98, 99, 100, 101, 102, 103, 104, 105, 106, 107, 108, 109, 110, 111, 112, 113, 114, 115, 116, 117, 118, 119, 120, 121, 122]⟩ : ByteArray)[k.val]'(k.isLt)).toNat : Int) = (sd k.val).toNat := by decide +kernel
theorem Fm.put {w wr : World} {T : List UInt8} (h : Fm w T wr) (hT : T.length ≤ 64) (c : UInt8) (v : Int) (hv : v = (c.toNat : Int)) : Fm w (c :: T) (wr.setCell ⟨w.heap.size, 65 - T.length - 1, none⟩ (.int .u8 v)) := by
  obtain ⟨cs, hcs, hblk, hTl, hcells⟩ := h.blk
  subst hv
  refine ⟨h.below.setCell (by simp) _, cs.setIfInBounds (65 - T.length - 1) (.int .u8 (c.toNat : Int)), by simp [hcs], ?_, by simp; omega, ?_⟩
  · simp [World.setCell, hblk, Array.getElem?_modify]
  · intro j hj
    simp only [List.length_cons] at hj ⊢
    rw [Array.getElem?_setIfInBounds]
    cases j with
    | zero =>
      rw [if_pos (by omega), if_pos (by omega)]
      rfl
    | succ j =>
      rw [if_neg (by omega)]
      have := hcells j (by omega)
      rw [show 65 - (T.length + 1) + (j + 1) = 65 - T.length + j by omega, this]
      rfl
theorem Fm.text {w wr : World} {T : List UInt8} (h : Fm w T wr) : (convert 23 9 (.slice (some ⟨w.heap.size, 65 - T.length, none⟩) T.length T.length)).run Tryd.prog wr = .ok (.string ⟨T.toArray⟩) wr := by
  obtain ⟨cs2, hcs2, hblk2, hTl2, hcells2⟩ := h.blk
  refine run_convert_bytes_back (P := Tryd.prog) wr 23 9 5 ⟨w.heap.size, 65 - T.length, none⟩ T.length T Tryd.underlying23 Tryd.underlying5 Tryd.underlying9 (fun j hj => ?_)
  have h := hcells2 j hj
  have e : (⟨w.heap.size, 65 - T.length, none⟩ : Addr).add j = ⟨w.heap.size, 65 - T.length + j, none⟩ := by simp [Addr.add]
  rw [e, Lib.cell_of_heap hblk2, h]
theorem notpow_ok (b : Nat) (hb2 : 2 ≤ b) (hb36 : b ≤ 36) (hb10 : b ≠ 10) (hp : b ≠ 2 ∧ b ≠ 4 ∧ b ≠ 8 ∧ b ≠ 16 ∧ b ≠ 32) (w : World) : Calls Tryd.prog 145 #[.int .i64 b] w fun e w' => e = .returned (.bool false) ∧ w' = w := by
  obtain rfl | rfl | rfl | rfl | rfl | rfl | rfl | rfl | rfl | rfl | rfl | rfl | rfl | rfl | rfl | rfl | rfl | rfl | rfl | rfl | rfl | rfl | rfl | rfl | rfl | rfl | rfl | rfl | rfl : b = 3 ∨ b = 5 ∨ b = 6 ∨ b = 7 ∨ b = 9 ∨ b = 11 ∨ b = 12 ∨ b = 13 ∨ b = 14 ∨ b = 15 ∨ b = 17 ∨ b = 18 ∨ b = 19 ∨ b = 20 ∨ b = 21 ∨ b = 22 ∨ b = 23 ∨ b = 24 ∨ b = 25 ∨ b = 26 ∨ b = 27 ∨ b = 28 ∨ b = 29 ∨ b = 30 ∨ b = 31 ∨ b = 33 ∨ b = 34 ∨ b = 35 ∨ b = 36 := by omega
  all_goals
    go_enter Tryd.func145, Tryd.ntmps145
    go_wp2
    go_ret
    exact ⟨rfl, rfl⟩
theorem bits_ok (u b : Nat) (w : World) (hu : u < 18446744073709551616) (hb2 : 2 ≤ b) (hb36 : b ≤ 36) (hb10 : b ≠ 10) (hp : b ≠ 2 ∧ b ≠ 4 ∧ b ≠ 8 ∧ b ≠ 16 ∧ b ≠ 32) :
    Calls Tryd.prog 133 #[.slice none 0 0, .int .u64 u, .int .i64 b, .bool false, .bool false] w fun e w' => e = .returned (.tuple #[.slice none 0 0, .string ⟨(digs b 64 u).toArray⟩]) ∧ Below w.heap.size w w' := by
  have k2 : (2 : Int) ≤ (b : Int) := by omega
  have k36 : (b : Int) ≤ 36 := by omega
  have g10 : ((b : Int) == 10) = false := by simp; omega
  go_enter Tryd.func133, Tryd.ntmps133
  go_wp2_with fail
  refine (notpow_ok b hb2 hb36 hb10 hp _).mono ?_
  rintro e w' ⟨rfl, rfl⟩
  go_wp2_with fail
  go_loopw [1, 13] (fun m i wr => ∃ (M : Nat) (T : List UInt8), m = .int .u64 M ∧ i = .int .i64 ((65 : Int) - T.length) ∧ T.length ≤ 63 ∧ M < 2 ^ (64 - T.length) ∧ digs b 64 u = digs b (64 - T.length) M ++ T ∧ Aside0 (Fm w T wr)) (fun m _ _ => (intOf m).toNat)
  case atStart => exact ⟨u, [], rfl, rfl, by simp, hu, by simp, ⟨⟨below_alloc (Below.refl _ _) _, _, by kernel_rfl, heap_alloc_new _ _, by simp, fun j h => by simp at h⟩⟩⟩
  case round =>
    obtain ⟨M, T, rfl, rfl, hT, hM, hdig, HF⟩ := hrel
    by_cases hlt : M < b
    · have hMb : (M : Int) < (b : Int) := by omega
      have hm36n : M < 36 := by omega
      have hm36 : (M : Int) < 36 := by omega
      obtain ⟨cs, hcs, hblk, hTl, hcells⟩ := HF.out.blk
      have hfz : wr.frozen? ⟨w.heap.size, 65 - T.length - 1, none⟩ = false := Lib.frozen_of_heap hblk _
      obtain ⟨v0, hold⟩ : ∃ v, wr.cell? ⟨w.heap.size, 65 - T.length - 1, none⟩ = some v := by
        rw [Lib.cell_of_heap hblk]
        exact ⟨_, Array.getElem?_eq_getElem (by omega)⟩
      have HP := Aside0.mk (HF.out.put (by omega) (sd M) _ (sd_lit ⟨M, hm36n⟩))
      have hlast : digs b (64 - T.length) M = [sd M] := by
        rw [show 64 - T.length = (63 - T.length) + 1 by omega, digs, if_pos hlt]
      rw [hlast] at hdig
      have HX := Aside0.mk hdig
      have harr : Tryd.prog.arrayLen 202 = 65 := by kernel_rfl
      have hsl : ∀ (W : World), (Instr.sliceAt 202 (.pointer (some ⟨w.heap.size, 0, none⟩)) (some (.int .i64 ((65 : Int) - T.length - 1))) none none).run Tryd.prog W = .ok (.slice (some ⟨w.heap.size, 65 - T.length - 1, none⟩) (T.length + 1) (T.length + 1)) W := by
        intro W
        have h := run_sliceAt_array_l (P := Tryd.prog) W 202 ⟨w.heap.size, 0, none⟩ (by kernel_rfl) .i64 ((65 : Int) - (T.length : Int) - 1) (by omega) (by rw [harr]; omega)
        rw [h, harr, show Tryd.prog.elem 202 = 5 by kernel_rfl, Tryd.sizeOf5]
        have ei : ((65 : Int) - (T.length : Int) - 1).toNat = 65 - T.length - 1 := by omega
        simp only [Result.andThen_ok, slicedAt, ei]
        rw [if_neg (by omega)]
        have e1 : 65 - (65 - T.length - 1) = T.length + 1 := by omega
        rw [e1]
        simp [Addr.add]
        omega
      have hcv := Fm.text HP.out
      rw [show 65 - (sd M :: T).length = 65 - T.length - 1 by simp only [List.length_cons]; omega] at hcv
      rw [List.length_cons] at hcv
      have HO := Aside0.mk (show digs b 64 u = sd M :: T by rw [hdig]; rfl)
      have HB := Aside0.mk HP.out.below
      clear hM hdig hlast hblk hcells hcs HF harr HX HP
      go_wp2_with fail
      go_ret2
      rw [HO.out]
      exact ⟨rfl, HB.out⟩
    · have hge : (b : Int) ≤ (M : Int) := by omega
      have hM64 : M < 18446744073709551616 := Nat.lt_of_lt_of_le hM (Nat.pow_le_pow_right (by decide) (by omega : 64 - T.length ≤ 64))
      obtain ⟨q, hq⟩ : ∃ q, q = M / b := ⟨_, rfl⟩
      obtain ⟨r, hr⟩ : ∃ r, r = M % b := ⟨_, rfl⟩
      obtain ⟨p, hpp⟩ : ∃ p, p = q * b := ⟨_, rfl⟩
      have hsum : p + r = M := by rw [hpp, hq, hr, Nat.mul_comm]; exact Nat.div_add_mod M b
      have hrb : r < b := by rw [hr]; exact Nat.mod_lt _ (by omega)
      have hqM : q ≤ M := by rw [hq]; exact Nat.div_le_self M b
      have hw1 : IntKind.u64.wrap ((M : Int) / (b : Int)) = (q : Int) := by
        rw [show (M : Int) / (b : Int) = (q : Int) by rw [hq]; exact (Int.natCast_ediv M b).symm]
        exact u64_wrap_id (x := (q : Int)) (by omega) (by omega)
      have hw2 : IntKind.u64.wrap ((q : Int) * (b : Int)) = (p : Int) := by
        rw [show (q : Int) * (b : Int) = (p : Int) by rw [hpp]; exact (Int.natCast_mul q b).symm]
        exact u64_wrap_id (x := (p : Int)) (by omega) (by omega)
      have hw3 : IntKind.u64.wrap ((M : Int) - (p : Int)) = (r : Int) := by
        rw [show (M : Int) - (p : Int) = (r : Int) by omega]
        exact u64_wrap_id (x := (r : Int)) (by omega) (by omega)
      obtain ⟨cs, hcs, hblk, hTl, hcells⟩ := HF.out.blk
      have hfz : wr.frozen? ⟨w.heap.size, 65 - T.length - 1, none⟩ = false := Lib.frozen_of_heap hblk _
      obtain ⟨v0, hold⟩ : ∃ v, wr.cell? ⟨w.heap.size, 65 - T.length - 1, none⟩ = some v := by
        rw [Lib.cell_of_heap hblk]
        exact ⟨_, Array.getElem?_eq_getElem (by omega)⟩
      have hm36 : (r : Int) < 36 := by omega
      have hm36n : r < 36 := by omega
      have hlt2 : q < M := by rw [hq]; exact Nat.div_lt_self (by omega) (by omega)
      have hstep : digs b (64 - T.length) M = digs b (64 - (T.length + 1)) q ++ [sd r] := by
        have hf : 2 ≤ 64 - T.length := by
          rcases Nat.lt_or_ge (64 - T.length) 2 with h | h
          · have : M < 2 ^ 1 := Nat.lt_of_lt_of_le hM (Nat.pow_le_pow_right (by decide) (by omega))
            omega
          · exact h
        rw [show 64 - T.length = (64 - (T.length + 1)) + 1 by omega, digs, if_neg hlt, ← hq, ← hr]
      have hM2 : q < 2 ^ (64 - (T.length + 1)) ∧ T.length + 1 ≤ 63 := by
        have hf : 2 ≤ 64 - T.length := by
          rcases Nat.lt_or_ge (64 - T.length) 2 with h | h
          · have : M < 2 ^ 1 := Nat.lt_of_lt_of_le hM (Nat.pow_le_pow_right (by decide) (by omega))
            omega
          · exact h
        refine ⟨?_, by omega⟩
        have h2q : q * 2 ≤ M := by
          have h3 : q * 2 ≤ q * b := Nat.mul_le_mul_left q hb2
          omega
        have he : 2 ^ (64 - T.length) = 2 ^ (64 - (T.length + 1)) * 2 := by rw [← Nat.pow_succ]; congr 1; omega
        omega
      have HP := Aside0.mk (HF.out.put (by omega) (sd r) _ (sd_lit ⟨r, hm36n⟩))
      rw [hstep] at hdig
      have HX := Aside0.mk (And.intro hdig hM2)
      clear hM hdig hM2 hstep hq hr hpp hsum hblk hcells hcs hM64 hqM HF
      go_wp2_with fail
      go_roundw
      case rel => exact ⟨q, sd r :: T, rfl, by simp only [List.length_cons]; congr 1; push_cast; omega, HX.out.2.2, HX.out.2.1, by rw [HX.out.1]; simp, HP⟩
      case measure => simp [intOf]; omega
end Go.Proofs.YthicaehcoingeaaDoor.PTV
