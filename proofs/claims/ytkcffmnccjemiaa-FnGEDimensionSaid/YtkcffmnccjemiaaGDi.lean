/-
  Contracts of Geo.value at a point, and of FindDimension at flat values. No condition.
-/
import Derived.Test.YtkcffmnccjemiaaGDh
namespace Go.Proofs.Ytkcffmnccjemiaa.GD
open Go.RowKit Go.Proofs.YtkcffmnccjemiaaW.PrintWords Go.Proofs.YtkcffmnccjemiaaW.PrintLast Go.Proofs.YtkcffmnccjemiaaW.PrintMore
set_option linter.unusedVariables false
set_option linter.unusedSimpArgs false
set_option maxRecDepth 100000
set_option maxHeartbeats 400000

@[go_sem] theorem ta43_43 (u : Value) (w : World) : (Instr.typeAssert (.iface 43 u) 37 43 true).run Try.prog w = .ok (.tuple #[u, .bool true]) w := by kernel_rfl
@[go_sem] theorem ta46_43 (u : Value) (w : World) : (Instr.typeAssert (.iface 43 u) 37 46 true).run Try.prog w = .ok (.tuple #[.agg #[.int .u32 0, .slice none 0 0], .bool false]) w := by kernel_rfl
@[go_sem] theorem ta47_43 (u : Value) (w : World) : (Instr.typeAssert (.iface 43 u) 37 47 true).run Try.prog w = .ok (.tuple #[.agg #[.int .u32 0, .slice none 0 0], .bool false]) w := by kernel_rfl
@[go_sem] theorem ta50_43 (u : Value) (w : World) : (Instr.typeAssert (.iface 43 u) 37 50 true).run Try.prog w = .ok (.tuple #[.agg #[.int .u32 0, .slice none 0 0], .bool false]) w := by kernel_rfl
@[go_sem] theorem ta51_43 (u : Value) (w : World) : (Instr.typeAssert (.iface 43 u) 37 51 true).run Try.prog w = .ok (.tuple #[.agg #[.int .u32 0, .slice none 0 0], .bool false]) w := by kernel_rfl
@[go_sem] theorem ta54_43 (u : Value) (w : World) : (Instr.typeAssert (.iface 43 u) 37 54 true).run Try.prog w = .ok (.tuple #[.agg #[.int .u32 0, .slice none 0 0], .bool false]) w := by kernel_rfl
@[go_sem] theorem ta57_43 (u : Value) (w : World) : (Instr.typeAssert (.iface 43 u) 37 57 true).run Try.prog w = .ok (.tuple #[.agg #[.int .u32 0, .slice none 0 0], .bool false]) w := by kernel_rfl
@[go_sem] theorem ta43_46 (u : Value) (w : World) : (Instr.typeAssert (.iface 46 u) 37 43 true).run Try.prog w = .ok (.tuple #[.agg #[.int .u32 0, .float .f64 0, .float .f64 0], .bool false]) w := by kernel_rfl
@[go_sem] theorem ta46_46 (u : Value) (w : World) : (Instr.typeAssert (.iface 46 u) 37 46 true).run Try.prog w = .ok (.tuple #[u, .bool true]) w := by kernel_rfl
@[go_sem] theorem ta47_46 (u : Value) (w : World) : (Instr.typeAssert (.iface 46 u) 37 47 true).run Try.prog w = .ok (.tuple #[.agg #[.int .u32 0, .slice none 0 0], .bool false]) w := by kernel_rfl
@[go_sem] theorem ta50_46 (u : Value) (w : World) : (Instr.typeAssert (.iface 46 u) 37 50 true).run Try.prog w = .ok (.tuple #[.agg #[.int .u32 0, .slice none 0 0], .bool false]) w := by kernel_rfl
@[go_sem] theorem ta51_46 (u : Value) (w : World) : (Instr.typeAssert (.iface 46 u) 37 51 true).run Try.prog w = .ok (.tuple #[.agg #[.int .u32 0, .slice none 0 0], .bool false]) w := by kernel_rfl
@[go_sem] theorem ta54_46 (u : Value) (w : World) : (Instr.typeAssert (.iface 46 u) 37 54 true).run Try.prog w = .ok (.tuple #[.agg #[.int .u32 0, .slice none 0 0], .bool false]) w := by kernel_rfl
@[go_sem] theorem ta57_46 (u : Value) (w : World) : (Instr.typeAssert (.iface 46 u) 37 57 true).run Try.prog w = .ok (.tuple #[.agg #[.int .u32 0, .slice none 0 0], .bool false]) w := by kernel_rfl
@[go_sem] theorem ta43_47 (u : Value) (w : World) : (Instr.typeAssert (.iface 47 u) 37 43 true).run Try.prog w = .ok (.tuple #[.agg #[.int .u32 0, .float .f64 0, .float .f64 0], .bool false]) w := by kernel_rfl
@[go_sem] theorem ta46_47 (u : Value) (w : World) : (Instr.typeAssert (.iface 47 u) 37 46 true).run Try.prog w = .ok (.tuple #[.agg #[.int .u32 0, .slice none 0 0], .bool false]) w := by kernel_rfl
@[go_sem] theorem ta47_47 (u : Value) (w : World) : (Instr.typeAssert (.iface 47 u) 37 47 true).run Try.prog w = .ok (.tuple #[u, .bool true]) w := by kernel_rfl
@[go_sem] theorem ta50_47 (u : Value) (w : World) : (Instr.typeAssert (.iface 47 u) 37 50 true).run Try.prog w = .ok (.tuple #[.agg #[.int .u32 0, .slice none 0 0], .bool false]) w := by kernel_rfl
@[go_sem] theorem ta51_47 (u : Value) (w : World) : (Instr.typeAssert (.iface 47 u) 37 51 true).run Try.prog w = .ok (.tuple #[.agg #[.int .u32 0, .slice none 0 0], .bool false]) w := by kernel_rfl
@[go_sem] theorem ta54_47 (u : Value) (w : World) : (Instr.typeAssert (.iface 47 u) 37 54 true).run Try.prog w = .ok (.tuple #[.agg #[.int .u32 0, .slice none 0 0], .bool false]) w := by kernel_rfl
@[go_sem] theorem ta57_47 (u : Value) (w : World) : (Instr.typeAssert (.iface 47 u) 37 57 true).run Try.prog w = .ok (.tuple #[.agg #[.int .u32 0, .slice none 0 0], .bool false]) w := by kernel_rfl
@[go_sem] theorem ta43_50 (u : Value) (w : World) : (Instr.typeAssert (.iface 50 u) 37 43 true).run Try.prog w = .ok (.tuple #[.agg #[.int .u32 0, .float .f64 0, .float .f64 0], .bool false]) w := by kernel_rfl
@[go_sem] theorem ta46_50 (u : Value) (w : World) : (Instr.typeAssert (.iface 50 u) 37 46 true).run Try.prog w = .ok (.tuple #[.agg #[.int .u32 0, .slice none 0 0], .bool false]) w := by kernel_rfl
@[go_sem] theorem ta47_50 (u : Value) (w : World) : (Instr.typeAssert (.iface 50 u) 37 47 true).run Try.prog w = .ok (.tuple #[.agg #[.int .u32 0, .slice none 0 0], .bool false]) w := by kernel_rfl
@[go_sem] theorem ta50_50 (u : Value) (w : World) : (Instr.typeAssert (.iface 50 u) 37 50 true).run Try.prog w = .ok (.tuple #[u, .bool true]) w := by kernel_rfl
@[go_sem] theorem ta51_50 (u : Value) (w : World) : (Instr.typeAssert (.iface 50 u) 37 51 true).run Try.prog w = .ok (.tuple #[.agg #[.int .u32 0, .slice none 0 0], .bool false]) w := by kernel_rfl
@[go_sem] theorem ta54_50 (u : Value) (w : World) : (Instr.typeAssert (.iface 50 u) 37 54 true).run Try.prog w = .ok (.tuple #[.agg #[.int .u32 0, .slice none 0 0], .bool false]) w := by kernel_rfl
@[go_sem] theorem ta57_50 (u : Value) (w : World) : (Instr.typeAssert (.iface 50 u) 37 57 true).run Try.prog w = .ok (.tuple #[.agg #[.int .u32 0, .slice none 0 0], .bool false]) w := by kernel_rfl
@[go_sem] theorem ta43_51 (u : Value) (w : World) : (Instr.typeAssert (.iface 51 u) 37 43 true).run Try.prog w = .ok (.tuple #[.agg #[.int .u32 0, .float .f64 0, .float .f64 0], .bool false]) w := by kernel_rfl
@[go_sem] theorem ta46_51 (u : Value) (w : World) : (Instr.typeAssert (.iface 51 u) 37 46 true).run Try.prog w = .ok (.tuple #[.agg #[.int .u32 0, .slice none 0 0], .bool false]) w := by kernel_rfl
@[go_sem] theorem ta47_51 (u : Value) (w : World) : (Instr.typeAssert (.iface 51 u) 37 47 true).run Try.prog w = .ok (.tuple #[.agg #[.int .u32 0, .slice none 0 0], .bool false]) w := by kernel_rfl
@[go_sem] theorem ta50_51 (u : Value) (w : World) : (Instr.typeAssert (.iface 51 u) 37 50 true).run Try.prog w = .ok (.tuple #[.agg #[.int .u32 0, .slice none 0 0], .bool false]) w := by kernel_rfl
@[go_sem] theorem ta51_51 (u : Value) (w : World) : (Instr.typeAssert (.iface 51 u) 37 51 true).run Try.prog w = .ok (.tuple #[u, .bool true]) w := by kernel_rfl
@[go_sem] theorem ta54_51 (u : Value) (w : World) : (Instr.typeAssert (.iface 51 u) 37 54 true).run Try.prog w = .ok (.tuple #[.agg #[.int .u32 0, .slice none 0 0], .bool false]) w := by kernel_rfl
@[go_sem] theorem ta57_51 (u : Value) (w : World) : (Instr.typeAssert (.iface 51 u) 37 57 true).run Try.prog w = .ok (.tuple #[.agg #[.int .u32 0, .slice none 0 0], .bool false]) w := by kernel_rfl
@[go_sem] theorem ta43_54 (u : Value) (w : World) : (Instr.typeAssert (.iface 54 u) 37 43 true).run Try.prog w = .ok (.tuple #[.agg #[.int .u32 0, .float .f64 0, .float .f64 0], .bool false]) w := by kernel_rfl
@[go_sem] theorem ta46_54 (u : Value) (w : World) : (Instr.typeAssert (.iface 54 u) 37 46 true).run Try.prog w = .ok (.tuple #[.agg #[.int .u32 0, .slice none 0 0], .bool false]) w := by kernel_rfl
@[go_sem] theorem ta47_54 (u : Value) (w : World) : (Instr.typeAssert (.iface 54 u) 37 47 true).run Try.prog w = .ok (.tuple #[.agg #[.int .u32 0, .slice none 0 0], .bool false]) w := by kernel_rfl
@[go_sem] theorem ta50_54 (u : Value) (w : World) : (Instr.typeAssert (.iface 54 u) 37 50 true).run Try.prog w = .ok (.tuple #[.agg #[.int .u32 0, .slice none 0 0], .bool false]) w := by kernel_rfl
@[go_sem] theorem ta51_54 (u : Value) (w : World) : (Instr.typeAssert (.iface 54 u) 37 51 true).run Try.prog w = .ok (.tuple #[.agg #[.int .u32 0, .slice none 0 0], .bool false]) w := by kernel_rfl
@[go_sem] theorem ta54_54 (u : Value) (w : World) : (Instr.typeAssert (.iface 54 u) 37 54 true).run Try.prog w = .ok (.tuple #[u, .bool true]) w := by kernel_rfl
@[go_sem] theorem ta57_54 (u : Value) (w : World) : (Instr.typeAssert (.iface 54 u) 37 57 true).run Try.prog w = .ok (.tuple #[.agg #[.int .u32 0, .slice none 0 0], .bool false]) w := by kernel_rfl
@[go_sem] theorem ta43_57 (u : Value) (w : World) : (Instr.typeAssert (.iface 57 u) 37 43 true).run Try.prog w = .ok (.tuple #[.agg #[.int .u32 0, .float .f64 0, .float .f64 0], .bool false]) w := by kernel_rfl
@[go_sem] theorem ta46_57 (u : Value) (w : World) : (Instr.typeAssert (.iface 57 u) 37 46 true).run Try.prog w = .ok (.tuple #[.agg #[.int .u32 0, .slice none 0 0], .bool false]) w := by kernel_rfl
@[go_sem] theorem ta47_57 (u : Value) (w : World) : (Instr.typeAssert (.iface 57 u) 37 47 true).run Try.prog w = .ok (.tuple #[.agg #[.int .u32 0, .slice none 0 0], .bool false]) w := by kernel_rfl
@[go_sem] theorem ta50_57 (u : Value) (w : World) : (Instr.typeAssert (.iface 57 u) 37 50 true).run Try.prog w = .ok (.tuple #[.agg #[.int .u32 0, .slice none 0 0], .bool false]) w := by kernel_rfl
@[go_sem] theorem ta51_57 (u : Value) (w : World) : (Instr.typeAssert (.iface 57 u) 37 51 true).run Try.prog w = .ok (.tuple #[.agg #[.int .u32 0, .slice none 0 0], .bool false]) w := by kernel_rfl
@[go_sem] theorem ta54_57 (u : Value) (w : World) : (Instr.typeAssert (.iface 57 u) 37 54 true).run Try.prog w = .ok (.tuple #[.agg #[.int .u32 0, .slice none 0 0], .bool false]) w := by kernel_rfl
@[go_sem] theorem ta57_57 (u : Value) (w : World) : (Instr.typeAssert (.iface 57 u) 37 57 true).run Try.prog w = .ok (.tuple #[u, .bool true]) w := by kernel_rfl
theorem dim43_ok (u : Value) (w : World) : Calls Try.prog 11 #[.iface 43 u] w fun e w' => e = .returned (.iface 3 (.int .i64 0)) ∧ Below w.heap.size w w' := by
  go_enter Try.func11, Try.ntmps11
  go_wp2
  go_ret
  exact ⟨rfl, Below.refl _ _⟩
theorem dim46_ok (u : Value) (w : World) : Calls Try.prog 11 #[.iface 46 u] w fun e w' => e = .returned (.iface 3 (.int .i64 0)) ∧ Below w.heap.size w w' := by
  go_enter Try.func11, Try.ntmps11
  go_wp2
  go_ret
  exact ⟨rfl, Below.refl _ _⟩
theorem dim47_ok (u : Value) (w : World) : Calls Try.prog 11 #[.iface 47 u] w fun e w' => e = .returned (.iface 3 (.int .i64 1)) ∧ Below w.heap.size w w' := by
  go_enter Try.func11, Try.ntmps11
  go_wp2
  go_ret
  exact ⟨rfl, Below.refl _ _⟩
theorem dim50_ok (u : Value) (w : World) : Calls Try.prog 11 #[.iface 50 u] w fun e w' => e = .returned (.iface 3 (.int .i64 1)) ∧ Below w.heap.size w w' := by
  go_enter Try.func11, Try.ntmps11
  go_wp2
  go_ret
  exact ⟨rfl, Below.refl _ _⟩
theorem dim51_ok (u : Value) (w : World) : Calls Try.prog 11 #[.iface 51 u] w fun e w' => e = .returned (.iface 3 (.int .i64 2)) ∧ Below w.heap.size w w' := by
  go_enter Try.func11, Try.ntmps11
  go_wp2
  go_ret
  exact ⟨rfl, Below.refl _ _⟩
theorem dim54_ok (u : Value) (w : World) : Calls Try.prog 11 #[.iface 54 u] w fun e w' => e = .returned (.iface 3 (.int .i64 2)) ∧ Below w.heap.size w w' := by
  go_enter Try.func11, Try.ntmps11
  go_wp2
  go_ret
  exact ⟨rfl, Below.refl _ _⟩
/-- The dimension of a flat geometry's kind, and the type of its value. -/
def typeOf (k : Int) : Nat := if k = 1 then 43 else if k = 2 then 47 else if k = 3 then 51 else if k = 4 then 46 else if k = 5 then 50 else 54
theorem at_P {w : World} {A : Option Addr} {n : Nat} {xs : List (Int × Nat × Nat)} (h : kP.C w A n xs) (i : Nat) (p : Int × Nat × Nat) (h1 : xs[i]? = some p) : ∃ ad, A = some ad ∧ w.cell? (ad.add (i * 3)) = some (.int .u32 p.1) ∧ w.cell? ⟨(ad.add (i * 3)).block, (ad.add (i * 3)).off + 1, none⟩ = some (.float .f64 p.2.1) ∧ w.cell? ⟨(ad.add (i * 3)).block, (ad.add (i * 3)).off + 2, none⟩ = some (.float .f64 p.2.2) := by
  have hlen : i < xs.length := (List.getElem?_eq_some_iff.1 h1).1
  obtain ⟨ad, c, e, hl, hK, hc0⟩ := Kd.C_get h ((0, 0, 0) : Int × Nat × Nat) (i : Int) (by omega) (by have := h.1; omega)
  have hc : ∀ j u, c[j]? = some u → w.cell? (ad.add (i * 3 + j)) = some u := hc0
  rw [Int.toNat_natCast, List.getD_eq_getElem?_getD, h1, Option.getD_some] at hK
  obtain ⟨_, _, rfl, rfl, _, _, rfl, rfl, rfl⟩ := hK
  exact ⟨ad, e, hc 0 _ rfl, by rw [← add_field _ _ 1 (by omega)]; exact hc 1 _ rfl, by rw [← add_field _ _ 2 (by omega)]; exact hc 2 _ rfl⟩
theorem val1_ok (s : Int) (A2 A3 A4 A5 : Option Addr) (c2 c3 c4 n5 c5 : Nat) (p : Nat × Nat) (l3 : List (List (Nat × Nat))) (l4 : List (List (List (Nat × Nat)))) (w : World) (hL : Lays w A2 A3 A4 [p] l3 l4) :
    Calls Try.prog 12 #[gv 1 s A2 A3 A4 A5 1 c2 l3.length c3 l4.length c4 n5 c5] w fun e w' => OfType e 43 ∧ Below w.heap.size w w' := by
  have hB := below_alloc (Below.refl w.heap.size w) (go 1 s A2 A3 A4 A5 1 c2 l3.length c3 l4.length c4 n5 c5)
  have H := Aside0.mk (points_ok s A2 c2 [p] (by simp) _ (hL.below hB).1)
  have HB := Aside0.mk hB
  generalize l3.length = m3 at *
  generalize l4.length = m4 at *
  clear hL hB
  go_enter Try.func12, Try.ntmps12
  go_wp2_with fail
  refine (H.out).mono ?_
  rintro e w2 ⟨v, rfl, hr, hb⟩
  have HB2 := Aside0.mk (below_step HB.out hb)
  obtain ⟨A, c', rfl, hle, hC⟩ := Kd.R_reads hr
  obtain ⟨ad, rfl, x0, x1, x2⟩ := at_P hC 0 _ rfl
  rw [show ad.add (0 * 3) = ad by cases ad; simp [Addr.add]] at x0 x1 x2
  clear hr hC hb H HB hle
  simp only at x0 x1 x2
  go_wp2_with fail
  go_ret
  exact ⟨⟨_, rfl⟩, HB2.out⟩
end Go.Proofs.Ytkcffmnccjemiaa.GD
