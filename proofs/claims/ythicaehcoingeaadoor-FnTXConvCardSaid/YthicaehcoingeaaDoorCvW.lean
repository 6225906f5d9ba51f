/-
  A world in which the tables that FnTXConv lists are laid: the witness of its row.
-/
import Derived.Test.YthicaehcoingeaaDoorCards
import Derived.Test.YthicaehcoingeaaDoorShelfU
import Derived.Test.YthicaehcoingeaaDoorCVt
import Derived.Lib.LaidIn
import Derived.Lib.LaidCaseMet
import Derived.Lib.LaidTab
import Derived.Lib.LaidU8
import Derived.PinnedBridge
import Derived.Deep.DeepWitnessRowRef
namespace Go.Proofs.YthicaehcoingeaaDoor.CvW
open Go Go.Lib Go.Shelf Go.Proofs
set_option maxRecDepth 100000

def ren274 : Ren := ⟨Tryd.lays274_ren.f, Tryd.lays274_ren.t, fun | 13 => 9 | n => n⟩
theorem lays274 : Lays.n274 Tryd.prog ren274 := { Tryd.lays274 with }
theorem xC : CaseExtra Tryd.prog ren274 := ⟨by kernel_rfl, by kernel_rfl, by kernel_rfl, by kernel_rfl, by kernel_rfl, by kernel_rfl⟩

theorem laidIn_case {P : Program} {ρ : Ren} (L : Lays.n274 P ρ) (t206 : P.underlying (ρ.t 206) = some (.array 3 (ρ.t 21))) (X : CaseExtra P ρ) {w : World} (R : Nat) (t : TypeId) (hgR : ρ.g 13 ≠ R)
    (hvar : w.heap[ρ.g 13]? = some (.cells #[.slice (some ⟨R, 0, none⟩) caseA.size caseA.size] (ρ.t 162) (0, 0)))
    (hblk : w.heap[R]? = some (.cells caseCells5 t (0, 0))) : LaidIn P w [("unicode.CaseRanges", caseData)] [ρ.g 13, R] := by
  have hT := caseTab_of_block hblk
  have hread := case_slice_reads L t206 X hT caseA_wf (by rw [caseA_size]; unfold maxLen; omega) 0
  rw [case_rows_data] at hread
  have hv : w.var? P "unicode.CaseRanges" = some #[.slice (some ⟨R, 0, none⟩) caseA.size caseA.size] := by simp [World.var?, X.n13, hvar]
  refine LaidIn.one _ X.n13 X.y13 hv hread ?_ ?_ ?_
  · refine List.nodup_append.2 ⟨row_nodup _ _, row_nodup _ _, ?_⟩
    intro a ha b hb e
    obtain ⟨i, _, rfl⟩ := MemPlace.mem_row.1 ha
    obtain ⟨j, _, rfl⟩ := MemPlace.mem_row.1 hb
    simp at e
    exact hgR e.1
  · intro b off hp
    rcases List.mem_append.1 hp with hp | hp
    · obtain ⟨i, hi, e⟩ := MemPlace.mem_row.1 hp
      cases e
      refine ⟨⟨_, _, hvar⟩, fun u v hc => ?_⟩
      obtain rfl : i = 0 := by simp at hi; omega
      rw [Lib.cell_of_heap hvar] at hc
      simp at hc
    · obtain ⟨i, hi, e⟩ := MemPlace.mem_row.1 hp
      cases e
      refine ⟨⟨_, _, hblk⟩, fun u v hc => ?_⟩
      obtain ⟨c0, c1, c2, c3, c4⟩ := hT (i / 5) (by omega)
      have hi5 : 0 + i = 0 + i / 5 * 5 + i % 5 := by omega
      simp only at hc
      rw [hi5] at hc
      have hm : i % 5 < 5 := Nat.mod_lt _ (by omega)
      match hk : i % 5, hm with
      | 0, _ => rw [hk, Nat.add_zero, c0] at hc; cases hc
      | 1, _ => rw [hk, c1] at hc; cases hc
      | 2, _ => rw [hk, c2] at hc; cases hc
      | 3, _ => rw [hk, c3] at hc; cases hc
      | 4, _ => rw [hk, c4] at hc; cases hc
  · intro x hx
    rcases List.mem_append.1 hx with hx | hx
    · obtain ⟨i, _, rfl⟩ := MemPlace.mem_row.1 hx
      exact List.mem_cons_self ..
    · obtain ⟨i, _, rfl⟩ := MemPlace.mem_row.1 hx
      exact List.mem_cons_of_mem _ (List.mem_cons_self ..)

noncomputable abbrev N0 : Nat := (World.settled Tryd.prog default).heap.size
noncomputable def laidWorld (os : Os) : World :=
  let N := (World.settled Tryd.prog os).heap.size
  let w0 := World.holding Tryd.prog os ⟨#[
    .cells caseCells5 209, .cells #[.string (⟨#[118, 97, 108, 117, 101, 32, 111, 117, 116, 32, 111, 102, 32, 114, 97, 110, 103, 101]⟩ : ByteArray)] 213, .cells #[.string (⟨#[105, 110, 118, 97, 108, 105, 100, 32, 115, 121, 110, 116, 97, 120]⟩ : ByteArray)] 213], #[], []⟩
  let put (h : Array Obj) (g : Nat) (cs : Array Value) : Array Obj := h.modify g fun
    | .cells _ t frozen => .cells cs t frozen
    | o => o
  let h1 := put w0.heap 14 #[Value.int .u8 0, Value.int .u8 1, Value.int .u8 28, Value.int .u8 2, Value.int .u8 29, Value.int .u8 14, Value.int .u8 24, Value.int .u8 3, Value.int .u8 30, Value.int .u8 22, Value.int .u8 20, Value.int .u8 15, Value.int .u8 25, Value.int .u8 17, Value.int .u8 4, Value.int .u8 8, Value.int .u8 31, Value.int .u8 27, Value.int .u8 13, Value.int .u8 23, Value.int .u8 21, Value.int .u8 19, Value.int .u8 16, Value.int .u8 7, Value.int .u8 26, Value.int .u8 12, Value.int .u8 18, Value.int .u8 6, Value.int .u8 11, Value.int .u8 5, Value.int .u8 10, Value.int .u8 9]
  let h2 := put h1 15 #[Value.int .u8 0, Value.int .u8 1, Value.int .u8 56, Value.int .u8 2, Value.int .u8 57, Value.int .u8 49, Value.int .u8 28, Value.int .u8 3, Value.int .u8 61, Value.int .u8 58, Value.int .u8 42, Value.int .u8 50, Value.int .u8 38, Value.int .u8 29, Value.int .u8 17, Value.int .u8 4, Value.int .u8 62, Value.int .u8 47, Value.int .u8 59, Value.int .u8 36, Value.int .u8 45, Value.int .u8 43, Value.int .u8 51, Value.int .u8 22, Value.int .u8 53, Value.int .u8 39, Value.int .u8 33, Value.int .u8 30, Value.int .u8 24, Value.int .u8 18, Value.int .u8 12, Value.int .u8 5, Value.int .u8 63, Value.int .u8 55, Value.int .u8 48, Value.int .u8 27, Value.int .u8 60, Value.int .u8 41, Value.int .u8 37, Value.int .u8 16, Value.int .u8 46, Value.int .u8 35, Value.int .u8 44, Value.int .u8 21, Value.int .u8 52, Value.int .u8 32, Value.int .u8 23, Value.int .u8 11, Value.int .u8 54, Value.int .u8 26, Value.int .u8 40, Value.int .u8 15, Value.int .u8 34, Value.int .u8 20, Value.int .u8 31, Value.int .u8 10, Value.int .u8 25, Value.int .u8 14, Value.int .u8 19, Value.int .u8 9, Value.int .u8 13, Value.int .u8 8, Value.int .u8 7, Value.int .u8 6]
  let h3 := put h2 11 #[Value.int .u64 1, Value.int .u64 10, Value.int .u64 100, Value.int .u64 1000, Value.int .u64 10000, Value.int .u64 100000, Value.int .u64 1000000, Value.int .u64 10000000, Value.int .u64 100000000, Value.int .u64 1000000000, Value.int .u64 10000000000, Value.int .u64 100000000000, Value.int .u64 1000000000000, Value.int .u64 10000000000000, Value.int .u64 100000000000000, Value.int .u64 1000000000000000, Value.int .u64 10000000000000000, Value.int .u64 100000000000000000, Value.int .u64 1000000000000000000, Value.int .u64 10000000000000000000]
  let h4 := put h3 6 #[Value.int .u8 128, Value.int .u8 191, Value.int .u8 160, Value.int .u8 191, Value.int .u8 128, Value.int .u8 159, Value.int .u8 144, Value.int .u8 191, Value.int .u8 128, Value.int .u8 143, Value.int .u8 0, Value.int .u8 0, Value.int .u8 0, Value.int .u8 0, Value.int .u8 0, Value.int .u8 0, Value.int .u8 0, Value.int .u8 0, Value.int .u8 0, Value.int .u8 0, Value.int .u8 0, Value.int .u8 0, Value.int .u8 0, Value.int .u8 0, Value.int .u8 0, Value.int .u8 0, Value.int .u8 0, Value.int .u8 0, Value.int .u8 0, Value.int .u8 0, Value.int .u8 0, Value.int .u8 0]
  let h5 := put h4 13 #[.iface 211 (.pointer (some ⟨N + 1, 0, none⟩))]
  let h6 := put h5 12 #[.iface 211 (.pointer (some ⟨N + 2, 0, none⟩))]
  let h7 := put h6 9 #[.slice (some ⟨N, 0, none⟩) 336 336]
  let h8 := put h7 5 (Lib.firstTab.map fun z => Value.int .u8 z).toArray
  { w0 with heap := h8 }

theorem piece0 (os : Os) (args : Array Value) : LaidIn Tryd.prog ((laidWorld os).forCall (fun _ _ => 0) ⟨#[], args, []⟩).memory [("math/bits.deBruijn32tab", Rows.laid_math_bits_deBruijn32tab), ("math/bits.deBruijn64tab", Rows.laid_math_bits_deBruijn64tab), ("internal/strconv.uint64pow10", Rows.laid_internal_strconv_uint64pow10), ("unicode/utf8.acceptRanges", Rows.laid_unicode_utf8_acceptRanges)] [14, 15, 11, 6] :=
  LaidIn.of_run [14, 15, 11, 6] 8 (by kernel_rfl) (by kernel_rfl) (by kernel_rfl) (by kernel_rfl)
theorem pieceE (os : Os) (args : Array Value) : LaidIn Tryd.prog ((laidWorld os).forCall (fun _ _ => 0) ⟨#[], args, []⟩).memory [("strconv.ErrRange", Rows.laid_strconv_ErrRange), ("strconv.ErrSyntax", Rows.laid_strconv_ErrSyntax)] [13, N0 + 1, 12, N0 + 2] :=
  LaidIn.of_run [13, N0 + 1, 12, N0 + 2] 8 (by kernel_rfl) (by kernel_rfl) (by kernel_rfl) (by kernel_rfl)
theorem piece1 (os : Os) (args : Array Value) : LaidIn Tryd.prog ((laidWorld os).forCall (fun _ _ => 0) ⟨#[], args, []⟩).memory [("unicode.CaseRanges", caseData)] [9, N0] :=
  laidIn_case lays274 (by kernel_rfl) xC N0 209 (of_decide_eq_true (by kernel_rfl)) (by kernel_rfl) (by kernel_rfl)
theorem piece3 (os : Os) (args : Array Value) : LaidIn Tryd.prog ((laidWorld os).forCall (fun _ _ => 0) ⟨#[], args, []⟩).memory [("unicode/utf8.first", Lib.firstData)] [5] :=
  LaidIn.of_run [5] 8 (by kernel_rfl) (by kernel_rfl) (by kernel_rfl) (by kernel_rfl)
theorem laid_met (os : Os) (args : Array Value) : laidMet Tryd.prog Rows.fnTXConvRow.laid ((laidWorld os).forCall (fun _ _ => 0) ⟨#[], args, []⟩).memory := by
  have h := ((((piece0 os args).append (pieceE os args) (by kernel_rfl)).append (piece1 os args) (by kernel_rfl)).append (piece3 os args) (by kernel_rfl)).met
  rw [← Pinned.caseRanges_eq, ← Pinned.utf8First_eq] at h
  exact h

/-- The two tables that the walks read, out of the variables' cells. -/
theorem tabs_of_vars {W : World} {cs1 cs2 : Array Value} (h1 : W.var? Tryd.prog "math/bits.deBruijn64tab" = some cs1) (e1 : cs1.toList = PTV.bruijnL.map fun z => Value.int .u8 z)
    (h2 : W.var? Tryd.prog "internal/strconv.uint64pow10" = some cs2) (e2 : cs2.toList = Lib.pow10Tab.map fun z => Value.int .u64 z) : PTV.Tabs W := by
  refine ⟨?_, ?_⟩
  · intro i hi
    have hgn : Tryd.prog.globalNamed "math/bits.deBruijn64tab" = some 15 := by kernel_rfl
    unfold World.var? at h1
    rw [hgn] at h1
    simp only [Option.bind_some] at h1
    split at h1
    · rename_i cs t f hh
      obtain rfl := Option.some.inj h1
      rw [Lib.cell_of_heap hh]
      have e3 : cs[i]? = cs.toList[i]? := by simp
      rw [e3, e1, List.getElem?_map]
      have hl : PTV.bruijnL.length = 64 := by decide
      rw [List.getElem?_eq_getElem (show i < PTV.bruijnL.length by omega)]
      simp [List.getD, List.getElem?_eq_getElem (show i < PTV.bruijnL.length by omega)]
    · cases h1
  · unfold PTV.Pow10 Lib.TabIs
    rw [h2, ← e2]
end Go.Proofs.YthicaehcoingeaaDoor.CvW
