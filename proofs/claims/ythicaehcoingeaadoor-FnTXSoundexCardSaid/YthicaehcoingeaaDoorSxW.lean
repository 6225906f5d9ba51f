/-
  A world in which the tables that FnTXSoundex lists are laid: the witness of its row.
-/
import Derived.Test.YthicaehcoingeaaDoorCards
import Derived.Test.YthicaehcoingeaaDoorShelfS
import Derived.Test.YthicaehcoingeaaDoorShelfU
import Derived.Lib.LaidIn
import Derived.Lib.LaidCaseMet
import Derived.Lib.LaidRTab
import Derived.Lib.LaidTab
import Derived.Lib.LaidU8
import Derived.PinnedBridge
import Derived.Deep.DeepWitnessRowRef
namespace Go.Proofs.YthicaehcoingeaaDoor.SxW
open Go Go.Lib Go.Shelf Go.Proofs
set_option maxRecDepth 100000

def ren274 : Ren := ⟨Tryd.lays274_ren.f, Tryd.lays274_ren.t, fun | 13 => 9 | n => n⟩
theorem lays274 : Lays.n274 Tryd.prog ren274 := { Tryd.lays274 with }
theorem xC : CaseExtra Tryd.prog ren274 := ⟨by kernel_rfl, by kernel_rfl, by kernel_rfl, by kernel_rfl, by kernel_rfl, by kernel_rfl⟩
theorem xL : RExtra Tryd.prog Tryd.lays200_ren := ⟨by kernel_rfl, by kernel_rfl, by kernel_rfl, by kernel_rfl, by kernel_rfl, by kernel_rfl, by kernel_rfl, by kernel_rfl⟩

theorem laidIn_case {P : Program} {ρ : Ren} (L : Lays.n274 P ρ) (t206 : P.underlying (ρ.t 206) = some (.array 3 (ρ.t 21))) (X : CaseExtra P ρ) {w : World} (R : Nat) (t : TypeId) (hgR : ρ.g 13 ≠ R)
    (hvar : w.heap[ρ.g 13]? = some (.cells #[.slice (some ⟨R, 0, none⟩) caseA.size caseA.size] (ρ.t 162) (0, 0)))
    (hblk : w.heap[R]? = some (.cells caseCells5 t (0, 0))) : LaidIn P w [("unicode.CaseRanges", caseData)] [ρ.g 13, R] := by
  have hT := caseTab_of_block hblk
  have hread := case_slice_reads L t206 X hT caseA_wf (by rw [caseA_size]; unfold maxLen; omega) 0
  rw [case_rows_data] at hread
  have hv : w.var? P "unicode.CaseRanges" = some #[.slice (some ⟨R, 0, none⟩) caseA.size caseA.size] := by simp [World.var?, X.n13, hvar]
  refine LaidIn.one _ X.n13 X.y13 hv hread ?_ ?_ ?_
  · refine List.nodup_append.2 ⟨row_nodup _ _, row_nodup _ _, ?_⟩
    intro a ha b hb e
    obtain ⟨i, _, rfl⟩ := MemPlace.mem_row.1 ha
    obtain ⟨j, _, rfl⟩ := MemPlace.mem_row.1 hb
    simp at e
    exact hgR e.1
  · intro b off hp
    rcases List.mem_append.1 hp with hp | hp
    · obtain ⟨i, hi, e⟩ := MemPlace.mem_row.1 hp
      cases e
      refine ⟨⟨_, _, hvar⟩, fun u v hc => ?_⟩
      obtain rfl : i = 0 := by simp at hi; omega
      rw [Lib.cell_of_heap hvar] at hc
      simp at hc
    · obtain ⟨i, hi, e⟩ := MemPlace.mem_row.1 hp
      cases e
      refine ⟨⟨_, _, hblk⟩, fun u v hc => ?_⟩
      obtain ⟨c0, c1, c2, c3, c4⟩ := hT (i / 5) (by omega)
      have hi5 : 0 + i = 0 + i / 5 * 5 + i % 5 := by omega
      simp only at hc
      rw [hi5] at hc
      have hm : i % 5 < 5 := Nat.mod_lt _ (by omega)
      match hk : i % 5, hm with
      | 0, _ => rw [hk, Nat.add_zero, c0] at hc; cases hc
      | 1, _ => rw [hk, c1] at hc; cases hc
      | 2, _ => rw [hk, c2] at hc; cases hc
      | 3, _ => rw [hk, c3] at hc; cases hc
      | 4, _ => rw [hk, c4] at hc; cases hc
  · intro x hx
    rcases List.mem_append.1 hx with hx | hx
    · obtain ⟨i, _, rfl⟩ := MemPlace.mem_row.1 hx
      exact List.mem_cons_self ..
    · obtain ⟨i, _, rfl⟩ := MemPlace.mem_row.1 hx
      exact List.mem_cons_of_mem _ (List.mem_cons_self ..)

noncomputable abbrev N0 : Nat := (World.settled Tryd.prog default).heap.size
noncomputable def laidWorld (os : Os) : World :=
  let N := (World.settled Tryd.prog os).heap.size
  let ρ := Tryd.lays200_ren
  let w0 := World.holding Tryd.prog os ⟨#[
    .cells (rgCells .u16 letterT.r16) (ρ.t 198), .cells (rgCells .u32 letterT.r32) (ρ.t 201),
    .cells #[.slice (some ⟨N, 0, none⟩) letterT.r16.size letterT.r16.size, .slice (some ⟨N + 1, 0, none⟩) letterT.r32.size letterT.r32.size, .int .i64 letterT.off] (ρ.t 196),
    .cells caseCells5 209], #[], []⟩
  let put (h : Array Obj) (g : Nat) (cs : Array Value) : Array Obj := h.modify g fun
    | .cells _ t frozen => .cells cs t frozen
    | o => o
  let h1 := put w0.heap 3 (Lib.propertiesTab.map fun z => Value.int .u8 z).toArray
  let h2 := put h1 4 #[.pointer (some ⟨N + 2, 0, none⟩)]
  let h3 := put h2 5 (Lib.firstTab.map fun z => Value.int .u8 z).toArray
  let h4 := put h3 6 ((List.range 16).flatMap fun i => [Value.int .u8 (Lib.accLo i), Value.int .u8 (Lib.accHi i)]).toArray
  let h5 := put h4 9 #[.slice (some ⟨N + 3, 0, none⟩) 336 336]
  { w0 with heap := h5 }

theorem piece0 (os : Os) (args : Array Value) : LaidIn Tryd.prog ((laidWorld os).forCall (fun _ _ => 0) ⟨#[], args, []⟩).memory [("unicode/utf8.acceptRanges", Rows.laid_unicode_utf8_acceptRanges), ("unicode.properties", Rows.laid_unicode_properties)] [6, 3] :=
  LaidIn.of_run [6, 3] 8 (by kernel_rfl) (by kernel_rfl) (by kernel_rfl) (by kernel_rfl)
theorem piece1 (os : Os) (args : Array Value) : LaidIn Tryd.prog ((laidWorld os).forCall (fun _ _ => 0) ⟨#[], args, []⟩).memory [("unicode.CaseRanges", caseData)] [9, N0 + 3] :=
  laidIn_case lays274 (by kernel_rfl) xC (N0 + 3) 209 (of_decide_eq_true (by kernel_rfl)) (by kernel_rfl) (by kernel_rfl)
theorem piece2 (os : Os) (args : Array Value) : LaidIn Tryd.prog ((laidWorld os).forCall (fun _ _ => 0) ⟨#[], args, []⟩).memory [("unicode.Letter", Lib.rtabData letterT)] [4, N0 + 2, N0, N0 + 1] :=
  laidIn_rtab (ρ := Tryd.lays200_ren) { Tryd.lays200 with } xL (by kernel_rfl) (by kernel_rfl) letterT (N0 + 2) N0 (N0 + 1) (Tryd.lays200_ren.t 198) (Tryd.lays200_ren.t 201)
    (by kernel_rfl) (by kernel_rfl) (by kernel_rfl) (by kernel_rfl) (by kernel_rfl) (of_decide_eq_true (by kernel_rfl)) (of_decide_eq_true (by kernel_rfl)) (of_decide_eq_true (by kernel_rfl))
theorem piece3 (os : Os) (args : Array Value) : LaidIn Tryd.prog ((laidWorld os).forCall (fun _ _ => 0) ⟨#[], args, []⟩).memory [("unicode/utf8.first", Lib.firstData)] [5] :=
  LaidIn.of_run [5] 8 (by kernel_rfl) (by kernel_rfl) (by kernel_rfl) (by kernel_rfl)
theorem laid_met (os : Os) (args : Array Value) : laidMet Tryd.prog Rows.fnTXSoundexRow.laid ((laidWorld os).forCall (fun _ _ => 0) ⟨#[], args, []⟩).memory := by
  have h := ((((piece0 os args).append (piece1 os args) (by kernel_rfl)).append (piece2 os args) (by kernel_rfl)).append (piece3 os args) (by kernel_rfl)).met
  rw [← Pinned.caseRanges_eq, ← Pinned.letter_eq, ← Pinned.utf8First_eq] at h
  exact h
end Go.Proofs.YthicaehcoingeaaDoor.SxW
