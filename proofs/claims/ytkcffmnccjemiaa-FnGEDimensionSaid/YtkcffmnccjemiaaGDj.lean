/-
  A flat geometry: its value, its dimension, as the program and as the specification say. Condition: geFlat's.
-/
import Derived.Test.YtkcffmnccjemiaaGDi
namespace Go.Proofs.Ytkcffmnccjemiaa.GD
open Go.RowKit Go.Proofs.YtkcffmnccjemiaaW.PrintWords Go.Proofs.YtkcffmnccjemiaaW.PrintLast Go.Proofs.YtkcffmnccjemiaaW.PrintMore
set_option linter.unusedVariables false
set_option linter.unusedSimpArgs false
set_option maxRecDepth 100000
set_option maxHeartbeats 400000

theorem Small.big {l : List (List (Nat × Nat))} (h : Small l) : l.length ≤ 1000 ∧ ∀ x ∈ l, x.length ≤ 1000 := ⟨by have := h.1; omega, fun x hx => by have := h.2 x hx; omega⟩
/-- The dimension of a kind. -/
def dimOf (k : Int) : Int := if k = 1 ∨ k = 4 then 0 else if k = 2 ∨ k = 5 then 1 else 2
theorem flatVal_ok (k s : Int) (A2 A3 A4 A5 : Option Addr) (c2 c3 c4 n5 c5 : Nat) (l2 : List (Nat × Nat)) (l3 : List (List (Nat × Nat))) (l4 : List (List (List (Nat × Nat)))) (w : World) (hL : Lays w A2 A3 A4 l2 l3 l4) (hF : Flat k l2 l3 l4) :
    Calls Try.prog 12 #[gv k s A2 A3 A4 A5 l2.length c2 l3.length c3 l4.length c4 n5 c5] w fun e w' => OfType e (typeOf k) ∧ Below w.heap.size w w' := by
  rcases hF with ⟨rfl, h⟩ | ⟨rfl, h⟩ | ⟨rfl, h⟩ | ⟨rfl | rfl, h⟩ | ⟨rfl, h, h2⟩
  · match l2, h with
    | [p], _ => exact val1_ok s A2 A3 A4 A5 c2 c3 c4 n5 c5 p l3 l4 w hL
  · exact val2_ok s A2 A3 A4 A5 c2 c3 c4 n5 c5 l2 l3 l4 w hL (by omega)
  · exact val4_ok s A2 A3 A4 A5 c2 c3 c4 n5 c5 l2 l3 l4 w hL (by omega)
  · exact val3_ok s A2 A3 A4 A5 c2 c3 c4 n5 c5 l2 l3 l4 w hL h.big
  · exact val5_ok s A2 A3 A4 A5 c2 c3 c4 n5 c5 l2 l3 l4 w hL h.big
  · exact val6_ok s A2 A3 A4 A5 c2 c3 c4 n5 c5 l2 l3 l4 w hL ⟨by omega, fun x hx => (h2 x hx).big⟩
theorem flatDim_ok (k : Int) (hk : k = 1 ∨ k = 2 ∨ k = 3 ∨ k = 4 ∨ k = 5 ∨ k = 6) (u : Value) (w : World) :
    Calls Try.prog 11 #[.iface (typeOf k) u] w fun e w' => e = .returned (.iface 3 (.int .i64 (dimOf k))) ∧ Below w.heap.size w w' := by
  rcases hk with rfl | rfl | rfl | rfl | rfl | rfl
  · exact dim43_ok u w
  · exact dim47_ok u w
  · exact dim51_ok u w
  · exact dim46_ok u w
  · exact dim50_ok u w
  · exact dim54_ok u w
theorem Flat.kind {k : Int} {l2 : List (Nat × Nat)} {l3 : List (List (Nat × Nat))} {l4 : List (List (List (Nat × Nat)))} (h : Flat k l2 l3 l4) : k = 1 ∨ k = 2 ∨ k = 3 ∨ k = 4 ∨ k = 5 ∨ k = 6 := by
  rcases h with ⟨h, _⟩ | ⟨h, _⟩ | ⟨h, _⟩ | ⟨h | h, _⟩ | ⟨h, _⟩ <;> omega
@[go_sem] theorem taInt (v : Value) (w : World) : (Instr.typeAssert (.iface 3 v) 20 3 true).run Try.prog w = .ok (.tuple #[v, .bool true]) w := by kernel_rfl
@[go_sem] theorem taInt1 (v : Value) (w : World) : (Instr.typeAssert (.iface 3 v) 20 3 false).run Try.prog w = .ok v w := by kernel_rfl
@[go_sem] theorem taNil (w : World) : (Instr.typeAssert .nilIface 20 3 true).run Try.prog w = .ok (.tuple #[.int .i64 0, .bool false]) w := by kernel_rfl
/-- impl.GEDimension of a flat one. -/
theorem implFlat_ok (k s : Int) (A2 A3 A4 A5 : Option Addr) (c2 c3 c4 n5 c5 : Nat) (l2 : List (Nat × Nat)) (l3 : List (List (Nat × Nat))) (l4 : List (List (List (Nat × Nat)))) (w : World) (hL : Lays w A2 A3 A4 l2 l3 l4) (hF : Flat k l2 l3 l4) :
    Calls Try.prog 6 #[gv k s A2 A3 A4 A5 l2.length c2 l3.length c3 l4.length c4 n5 c5] w fun e w' => e = .returned (.tuple #[.int .i64 (dimOf k), .bool true]) ∧ Below w.heap.size w w' := by
  have hB := below_alloc (Below.refl w.heap.size w) (go k s A2 A3 A4 A5 l2.length c2 l3.length c3 l4.length c4 n5 c5)
  have H := Aside0.mk (flatVal_ok k s A2 A3 A4 A5 c2 c3 c4 n5 c5 l2 l3 l4 _ (hL.below hB) hF)
  have H2 := Aside0.mk (fun u W => flatDim_ok k hF.kind u W)
  have HB := Aside0.mk hB
  generalize typeOf k = T at *
  generalize dimOf k = D at *
  generalize l2.length = m2 at *
  generalize l3.length = m3 at *
  generalize l4.length = m4 at *
  clear hL hF hB
  go_enter Try.func6, Try.ntmps6
  go_wp2_with fail
  refine (H.out).mono ?_
  rintro e w2 ⟨⟨u, rfl⟩, hb⟩
  have HB2 := Aside0.mk (below_step HB.out hb)
  clear hb H HB
  go_wp2_with fail
  refine (H2.out _ _).mono ?_
  rintro e w3 ⟨rfl, hb⟩
  have HB3 := Aside0.mk (below_step HB2.out hb)
  clear hb H2 HB2
  go_wp2_with fail
  go_ret2
  exact ⟨rfl, HB3.out⟩
/-- spec.GEDimension of a flat one. -/
theorem specFlat_ok (k s : Int) (A2 A3 A4 A5 : Option Addr) (n2 c2 n3 c3 n4 c4 n5 c5 : Nat) (hk : k = 1 ∨ k = 2 ∨ k = 3 ∨ k = 4 ∨ k = 5 ∨ k = 6) (w : World) :
    Calls Try.prog 7 #[gv k s A2 A3 A4 A5 n2 c2 n3 c3 n4 c4 n5 c5] w fun e w' => e = .returned (.int .i64 (dimOf k)) ∧ Below w.heap.size w w' := by
  rcases hk with rfl | rfl | rfl | rfl | rfl | rfl <;>
    (go_enter Try.func7, Try.ntmps7
     go_wp2
     go_ret
     exact ⟨by first | rfl | kernel_rfl, below_alloc (Below.refl _ _) _⟩)
end Go.Proofs.Ytkcffmnccjemiaa.GD
