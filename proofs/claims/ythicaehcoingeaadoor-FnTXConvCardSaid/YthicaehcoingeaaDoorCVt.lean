/-
  Contract of strconv.FormatUint at any base from 2 to 36.
-/
import Derived.Test.YthicaehcoingeaaDoorCVq
import Derived.Test.YthicaehcoingeaaDoorShelfV
import Derived.Lib.ItoaMem
namespace Go.Proofs.YthicaehcoingeaaDoor.PTV
open Go.RowKit Go.Proofs.YthicaehcoingeaaDoorW.PrintWords Go.Proofs.YthicaehcoingeaaDoorW.PrintLast Go.Proofs.YthicaehcoingeaaDoorW.PrintMore
open Go.Sort Go.Lib
set_option linter.unusedVariables false
set_option linter.unusedSimpArgs false
set_option maxRecDepth 1000000
set_option maxHeartbeats 4000000

theorem dec_digs (k u : Nat) (h : u < 2 ^ k) (hk : 1 ≤ k) : digs 10 k u = Lib.decDigits u := by
  induction k generalizing u with
  | zero => omega
  | succ k ih =>
    rw [Lib.decDigits, digs]
    by_cases h10 : u < 10
    · rw [if_pos h10, dif_pos h10]; unfold sd; rw [if_pos h10]
    · rw [if_neg h10, dif_neg h10]
      have hk2 : 1 ≤ k := by
        rcases Nat.eq_zero_or_pos k with h0 | h0
        · subst h0; simp at h; omega
        · exact h0
      rw [ih (u / 10) (by rw [Nat.pow_succ] at h; omega) hk2]
      unfold sd
      rw [if_pos (Nat.mod_lt _ (by decide))]

def Pow10 (w : World) : Prop := Lib.TabIs Tryd.prog w "internal/strconv.uint64pow10" .u64 Lib.pow10Tab

theorem format10_ok (u : Nat) (hu64 : u < 18446744073709551616) (w : World) (htab : Pow10 w) :
    Calls Tryd.prog 124 #[.int .u64 u, .int .i64 10] w fun e w' => e = .returned (.string ⟨(digs 10 64 u).toArray⟩) ∧ Below w.heap.size w w' := by
  have HD := Aside0.mk (dec_digs 64 u hu64 (by decide))
  by_cases hs : u < 100
  · go_enter Tryd.func124, Tryd.ntmps124
    go_wp2_with (go_at_call 130; refine (Tryd.internal_strconv_small u hs _).mono ?_; rintro e w' ⟨rfl, rfl⟩)
    go_ret
    rw [HD.out]
    exact ⟨rfl, Below.refl _ _⟩
  · have hu1 : 1 ≤ u := by omega
    have hnd20 : Lib.nDigits u ≤ 20 := by have := Lib.numDigits_eq u hu1 hu64; split at this <;> omega
    have hal : Tryd.prog.arrayLen 188 = 24 := by kernel_rfl
    have hsl1 : ∀ W, (Instr.sliceAt 188 (.pointer (some ⟨w.heap.size, 0, none⟩)) none (some (.int .i64 (Lib.nDigits u : Int))) none).run Tryd.prog W = .ok (.slice (some ⟨w.heap.size, 0, none⟩) (Lib.nDigits u) 24) W := fun W => by
      rw [run_sliceAt_array_h W 188 ⟨w.heap.size, 0, none⟩ (by kernel_rfl) .i64 (Lib.nDigits u : Int) (by omega) (by rw [hal]; omega), hal, show Tryd.prog.elem 188 = 5 by kernel_rfl, Tryd.sizeOf5]
      simp only [Result.andThen_ok, slicedAt]
      rw [if_neg (by decide)]
      simp [Addr.add]
    go_enter Tryd.func124, Tryd.ntmps124
    go_wp2_with fail
    refine (Tryd.internal_strconv_numDigits u hu1 hu64 _ (Lib.tabIs_alloc htab _)).mono ?_
    rintro e w' ⟨rfl, rfl⟩
    generalize hZ : (#[Value.int IntKind.u8 0, Value.int IntKind.u8 0, Value.int IntKind.u8 0, Value.int IntKind.u8 0, Value.int IntKind.u8 0, Value.int IntKind.u8 0, Value.int IntKind.u8 0, Value.int IntKind.u8 0, Value.int IntKind.u8 0, Value.int IntKind.u8 0, Value.int IntKind.u8 0, Value.int IntKind.u8 0, Value.int IntKind.u8 0, Value.int IntKind.u8 0, Value.int IntKind.u8 0, Value.int IntKind.u8 0, Value.int IntKind.u8 0, Value.int IntKind.u8 0, Value.int IntKind.u8 0, Value.int IntKind.u8 0, Value.int IntKind.u8 0, Value.int IntKind.u8 0, Value.int IntKind.u8 0, Value.int IntKind.u8 0] : Array Value) = Z
    have hZ2 : ∀ j, j < 24 → Z[j]? = some (.int .u8 0) := by
      intro j hj
      have e : Z = Array.replicate 24 (Value.int .u8 0) := hZ.symm.trans rfl
      rw [e, Array.getElem?_replicate, if_pos hj]
    have hH0 : Holds (fun (b : UInt8) => Value.int .u8 (b.toNat : Int)) (w.alloc (.cells Z 188)) w.heap.size 0 (Array.replicate (Lib.nDigits u) (0 : UInt8)) := fun j hj => by
      have hj' : j < Lib.nDigits u := by simpa using hj
      refine ⟨?_, World.frozen?_alloc_new _ _ _ _⟩
      rw [World.cell?_alloc_new, Nat.zero_add, hZ2 j (by omega), getElem!_pos _ j hj]
      simp
    have hfmt := Tryd.internal_strconv_formatBase10 w.heap.size 0 24 u (Array.replicate (Lib.nDigits u) 0) (w.alloc (.cells Z 188)) hH0 (by rw [Array.size_replicate]; exact Lib.lt_pow_nDigits u) hu64 (by rw [Array.size_replicate]; omega)
    rw [Array.size_replicate] at hfmt
    have HH0 := Lib.hid hH0
    clear hH0 hal hZ hZ2
    go_wp2_with fail
    refine hfmt.mono ?_
    rintro e w' ⟨rfl, k, v', dk, rfl, hF⟩
    have hcv : (convert 23 9 (.slice (some ⟨w.heap.size, 0, none⟩) (Lib.nDigits u) 24)).run Tryd.prog ((putRow (fun (b : UInt8) => Value.int .u8 (b.toNat : Int)) (w.alloc (.cells Z 188)) w.heap.size 0 dk).drewN k) = .ok (.string ⟨(Lib.decDigits u).toArray⟩) ((putRow (fun (b : UInt8) => Value.int .u8 (b.toNat : Int)) (w.alloc (.cells Z 188)) w.heap.size 0 dk).drewN k) := by
      have h := run_convert_bytes_back (P := Tryd.prog) ((putRow (fun (b : UInt8) => Value.int .u8 (b.toNat : Int)) (w.alloc (.cells Z 188)) w.heap.size 0 dk).drewN k) 23 9 5 ⟨w.heap.size, 0, none⟩ 24 (Lib.decDigits u) Tryd.underlying23 Tryd.underlying5 Tryd.underlying9 (fun j hj => by
        rw [Lib.row_is_numeral hF j hj, Lib.add_plain, World.cell?_drewN]
        exact cell?_putRow (fun (b : UInt8) => Value.int .u8 (b.toNat : Int)) _ w.heap.size 0 _ dk HH0.out (by rw [hF.size, Array.size_replicate]) j (by rw [hF.size]; rw [Lib.decDigits_length] at hj; exact hj))
      rw [Lib.decDigits_length] at h
      exact h
    go_wp2
    go_ret
    rw [HD.out]
    refine ⟨rfl, ?_⟩
    rw [alloc_eq_grow]
    obtain ⟨os', _, e⟩ := putRow_grow_new (fun (b : UInt8) => Value.int .u8 (b.toNat : Int)) w #[.cells Z 188] w.heap.size 0 dk (Nat.le_refl _)
    rw [e]
    have hB : Below w.heap.size w (grow w os') := ⟨rfl, rfl, rfl, by simp [grow], fun i hi => heap_grow_old w os' hi⟩
    exact pw_below_drewN hB k

def Tabs (w : World) : Prop := Bruijn w ∧ Pow10 w
/-- strconv.FormatUint: the digits of u in base b. -/
theorem format_ok (u b : Nat) (hu : u < 18446744073709551616) (hb2 : 2 ≤ b) (hb36 : b ≤ 36) (w : World) (hg : Tabs w) :
    Calls Tryd.prog 110 #[.int .u64 u, .int .i64 b] w fun e w' => e = .returned (.string ⟨(digs b 64 u).toArray⟩) ∧ Below w.heap.size w w' := by
  suffices H : Calls Tryd.prog 124 #[.int .u64 u, .int .i64 b] w fun e w' => e = .returned (.string ⟨(digs b 64 u).toArray⟩) ∧ Below w.heap.size w w' by
    go_enter Tryd.func110, Tryd.ntmps110
    go_wp2_with (go_at_call 124; refine H.mono ?_; rintro e w' ⟨rfl, hb⟩)
    go_ret
    exact ⟨rfl, hb⟩
  by_cases h10 : b = 10
  · subst h10
    exact format10_ok u hu w hg.2
  · have hbits : Calls Tryd.prog 133 #[.slice none 0 0, .int .u64 u, .int .i64 b, .bool false, .bool false] w fun e w' => e = .returned (.tuple #[.slice none 0 0, .string ⟨(digs b 64 u).toArray⟩]) ∧ Below w.heap.size w w' := by
      by_cases hp : b ≠ 2 ∧ b ≠ 4 ∧ b ≠ 8 ∧ b ≠ 16 ∧ b ≠ 32
      · exact bits_ok u b w hu hb2 hb36 h10 hp
      · obtain rfl | rfl | rfl | rfl | rfl : b = 2 ∨ b = 4 ∨ b = 8 ∨ b = 16 ∨ b = 32 := by omega
        · exact bits2_ok u w hg.1 hu
        · exact bits4_ok u w hg.1 hu
        · exact bits8_ok u w hg.1 hu
        · exact bits16_ok u w hg.1 hu
        · exact bits32_ok u w hg.1 hu
    have g10 : ((b : Int) == 10) = false := by simp; omega
    go_enter Tryd.func124, Tryd.ntmps124
    go_wp2_with (go_at_call 133; refine hbits.mono ?_; rintro e w' ⟨rfl, hb⟩)
    go_ret
    exact ⟨rfl, hb⟩
end Go.Proofs.YthicaehcoingeaaDoor.PTV
