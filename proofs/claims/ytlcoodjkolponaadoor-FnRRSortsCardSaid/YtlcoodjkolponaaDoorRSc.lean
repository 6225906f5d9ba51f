/-
  What `less' and `swap' of SortRanges do: rows compared by their columns; two headers change places. Condition: at most 1000 columns, each range with values.
-/
import Derived.Test.YtlcoodjkolponaaDoorRSa
import Derived.Test.YtlcoodjkolponaaDoorRSb
import Derived.Laws.CopyOwn
namespace Go.Proofs.YtlcoodjkolponaaDoor.PRR
open Go.Shelf Go.RowKit Go.Lib Go.Proofs.YtlcoodjkolponaaDoorW.PrintWords Go.Proofs.YtlcoodjkolponaaDoorW.PrintLast Go.Proofs.YtlcoodjkolponaaDoorW.PrintMore
open Go.Sort (swp swp_get swp_size)
open Go.Proofs.YtlcoodjkolponaaDoor.PRG (C cmpC typV)
set_option linter.unusedVariables false
set_option linter.unusedSimpArgs false
set_option maxRecDepth 100000
set_option maxHeartbeats 4000000

/-- A row's header, and what lies in the row. -/
structure Rw where
  A : Option Addr
  c : Nat
  xs : List S44
instance : Inhabited Rw := ⟨⟨none, 0, []⟩⟩
def Rw.v (r : Rw) : Value := .slice r.A r.xs.length r.c
def ltR (r s : Rw) : Bool := ltS r.xs s.xs
theorem swo_ltR : Go.Sort.SWO ltR := ⟨fun x => swo_ltS.irrefl _, fun x y z => swo_ltS.trans _ _ _, fun x y z => swo_ltS.ntrans _ _ _⟩
/-- A row of m columns that lay in a world. -/
structure Good (w0 : World) (m : Nat) (r : Rw) : Prop where
  len : r.xs.length = m
  full : ∀ x ∈ r.xs, FullS x
  row : Kd.C kE w0 r.A m (r.xs.map toC)
  cap : m ≤ r.c
/-- What holds all through the sort. -/
structure Srt (w0 : World) (g bs be n c m : Nat) (d : Array Rw) (W : World) : Prop where
  below : Below w0.heap.size w0 W
  row : W.heap[g]? = some (.cells (d.map Rw.v) 87 (0, 0))
  box : W.heap[bs]? = some (.cells #[.slice (some ⟨g, 0, none⟩) n c] 82 (0, 0))
  err : W.heap[be]? = some (.cells #[.nilIface] 68 (0, 0))
  size : d.size = n
  good : ∀ i, i < n → Good w0 m d[i]!
section
variable {w0 : World} {g bs be n c m : Nat} {d : Array Rw} {W : World}
theorem Srt.step (h : Srt w0 g bs be n c m d W) {W' : World} (hb : Below W.heap.size W W') : Srt w0 g bs be n c m d W' :=
  ⟨below_step h.below hb, blk_below h.row hb, blk_below h.box hb, blk_below h.err hb, h.size, h.good⟩
theorem Srt.cell (h : Srt w0 g bs be n c m d W) {i : Nat} (hi : i < n) : W.cell? ⟨g, i, none⟩ = some d[i]!.v := by
  have hs := h.size
  rw [blk_cell h.row, Array.getElem?_map, getElem!_pos d i (by omega), Array.getElem?_eq_getElem (by omega)]; rfl
theorem Srt.less (h : Srt w0 g bs be n c m d W) (hm : m ≤ 1000) (i j : Nat) (hi : i < n) (hj : j < n) :
    Calls Tryd.prog 83 #[.int .i64 (i : Int), .int .i64 (j : Int), .pointer (some ⟨bs, 0, none⟩), .pointer (some ⟨be, 0, none⟩)] W fun e w' => e = .returned (.bool (ltR d[i]! d[j]!)) ∧ Below W.heap.size W w' := by
  have b0 : W.cell? ⟨bs, 0, none⟩ = some (.slice (some ⟨g, 0, none⟩) n c) := by rw [blk_cell h.box]; rfl
  have gi := h.cell hi
  have gj := h.cell hj
  obtain ⟨li, fi, ki, _⟩ := h.good i hi
  obtain ⟨lj, fj, kj, _⟩ := h.good j hj
  have hv : ltR d[i]! d[j]! = (cmpL (d[i]!.xs.map toC) (d[j]!.xs.map toC) == -1) := by
    unfold ltR ltS; rw [cmpL_keys _ _ fi fj (by rw [li, lj])]
  rw [hv]
  unfold Rw.v at gi gj
  rw [li] at gi
  rw [lj] at gj
  have HC := Aside0.mk (fun W2 (hb : Below W.heap.size W W2) => rrCmp_ok m d[i]!.A d[i]!.c (d[i]!.xs.map toC) d[j]!.A d[j]!.c (d[j]!.xs.map toC) hm (by rw [List.length_map, li]) (by rw [List.length_map, lj]) W2 (Kd.C_below ki (below_step h.below hb)) (Kd.C_below kj (below_step h.below hb)))
  generalize cmpL (d[i]!.xs.map toC) (d[j]!.xs.map toC) = z at *
  generalize d[i]!.A = A1 at *
  generalize d[j]!.A = A2 at *
  generalize d[i]!.c = c1 at *
  generalize d[j]!.c = c2 at *
  clear hv li fi ki lj fj kj h
  go_enter Tryd.func83, Tryd.ntmps83
  go_wp2
  go_region_with (go_at_call 58; refine (HC.out _ (by repeat (first | (with_reducible exact Below.refl _ _) | (with_reducible apply pw_below_drewN) | (with_reducible apply below_drew)))).mono ?_; rintro e w2 ⟨rfl, hb⟩; have HB : Aside0 (Below W.heap.size W w2) := ⟨below_step (by repeat (first | (with_reducible exact Below.refl _ _) | (with_reducible apply pw_below_drewN) | (with_reducible apply below_drew))) hb⟩; clear hb)
  all_goals go_wp2
  all_goals go_ret
  all_goals exact ⟨rfl, HB.out⟩
theorem Srt.swap (h : Srt w0 g bs be n c m d W) (hg : w0.heap.size ≤ g) (h1 : bs ≠ g) (h2 : be ≠ g) (i j : Nat) (hi : i < n) (hj : j < n) :
    ∃ W', (callFunc 110 (#[.int .i64 (i : Int), .int .i64 (j : Int)] ++ #[.slice (some ⟨g, 0, none⟩) n c, typeHandle Tryd.prog 87])).run Tryd.prog W = .ok (.value (.tuple #[])) W' ∧ Srt w0 g bs be n c m (swp d i j) W' ∧ ∀ k, k ≠ g → W'.heap[k]? = W.heap[k]? := by
  have hs := h.size
  have r := run_swap_one (P := Tryd.prog) false 87 slE (by kernel_rfl) (by kernel_rfl) (fun _ => by kernel_rfl) g 0 n c i j hi hj d[i]!.v d[j]!.v rfl rfl W (by rw [Nat.zero_add]; exact h.cell hi) (by rw [Nat.zero_add]; exact h.cell hj) (blk_frozen h.row _) (blk_frozen h.row _)
  rw [Nat.zero_add, Nat.zero_add] at r
  have hW : (W.setCell ⟨g, i, none⟩ d[j]!.v).setCell ⟨g, j, none⟩ d[i]!.v = W.setRow g ((swp d i j).map Rw.v) := by
    rw [setCell_eq_setRow W g i (d.map Rw.v) 87 (0, 0) d[j]!.v h.row, setCell_eq_setRow _ g j ((d.map Rw.v).setIfInBounds i d[j]!.v) 87 (0, 0) d[i]!.v (setRow_heap W g _ _ 87 (0, 0) h.row), setRow_setRow]
    unfold swp
    simp only [Array.map_setIfInBounds]
  rw [hW] at r
  refine ⟨W.setRow g ((swp d i j).map Rw.v), ?_, ⟨below_setRow h.below hg _, setRow_heap W g _ _ 87 (0, 0) h.row, (setRow_other W g bs _ h1).trans h.box, (setRow_other W g be _ h2).trans h.err, by rw [swp_size]; exact hs, fun k hk => ?_⟩, fun k hk => setRow_other W g k _ hk⟩
  · rw [run_callFunc_extern Tryd.func110 (by kernel_rfl) (by kernel_rfl) (by kernel_rfl) (e := Extern.ReflectliteSwapper.swap false) (by kernel_rfl), show (#[Value.int .i64 (i : Int), Value.int .i64 (j : Int)] ++ #[Value.slice (some ⟨g, 0, none⟩) n c, typeHandle Tryd.prog 87]) = #[.int .i64 i, .int .i64 j, .slice (some ⟨g, 0, none⟩) n c, typeHandle Tryd.prog 87] from rfl, r]
    rfl
  · rw [swp_get d (by omega) (by omega) k]
    split
    · exact h.good i hi
    · split
      · exact h.good j hj
      · exact h.good k hk
end
theorem sorts (w0 : World) (g bs be n c m : Nat) (hg : w0.heap.size ≤ g) (h1 : bs ≠ g) (h2 : be ≠ g) (hm : m ≤ 1000) :
    Sorts ltR (Srt w0 g bs be n c m) 83 (if n = 1 then 103 else 110) #[.pointer (some ⟨bs, 0, none⟩), .pointer (some ⟨be, 0, none⟩)] (if n = 1 then #[] else #[.slice (some ⟨g, 0, none⟩) n c, typeHandle Tryd.prog 87]) n g where
  eg := enters_of Tryd.func83 (by kernel_rfl) rfl
  less := fun d W i j h hi hj => h.less hm i j hi hj
  step := fun d W W' h hb => h.step hb
  swap := fun d W i j h hi hj hne => by
    have h3 : n ≠ 1 := by omega
    rw [if_neg h3, if_neg h3]; exact h.swap hg h1 h2 i j hi hj
  size := fun d W h => blk_lt h.row
end Go.Proofs.YtlcoodjkolponaaDoor.PRR
