/-
  The two shapes of the law, as the program's contracts ask them. Condition: small whole numbers.
-/
import Derived.Test.YtjhgmpeoagndjaaGreatGWt
import Derived.Test.YtjhgmpeoagndjaaGreatGWs
namespace Go.Proofs.YtjhgmpeoagndjaaGreat.GE
open Go.RowKit Go.Proofs.YtjhgmpeoagndjaaGreatW.PrintWords Go.Proofs.YtjhgmpeoagndjaaGreatW.PrintLast Go.Proofs.YtjhgmpeoagndjaaGreatW.PrintMore
open Go.Proofs.YtjhgmpeoagndjaaGreat.Flo
set_option linter.unusedVariables false
set_option linter.unusedSimpArgs false
set_option maxRecDepth 100000
set_option maxHeartbeats 4000000

theorem rec_is {a0 a1 r1 r2 : Nat} {X Y W H : Int} (h1 : Sw a0 X) (h2 : Sw a1 Y) (h3 : Sw r1 (X + W)) (h4 : Sw r2 (Y + H)) : Is (recW a0 a1 r1 r2) (recL X Y W H) := by
  refine ⟨rfl, fun i a x ha hx => ?_⟩
  match i, ha, hx with
  | 0, ha, hx => cases ha; cases hx; exact ⟨h1, h2⟩
  | 1, ha, hx => cases ha; cases hx; exact ⟨h3, h2⟩
  | 2, ha, hx => cases ha; cases hx; exact ⟨h3, h4⟩
  | 3, ha, hx => cases ha; cases hx; exact ⟨h1, h4⟩
  | 4, ha, hx => cases ha; cases hx; exact ⟨h1, h2⟩
/-- A rectangle and a point, as they are laid. -/
def Laid (W : World) (g gA gp a0 a1 r1 r2 p0 p1 : Nat) : Prop := W.heap[g]? = some (boS gA) ∧ W.heap[gA]? = some (boA a0 a1 r1 r2) ∧ W.heap[gp]? = some (po p0 p1)
theorem Laid.below {W W' : World} {g gA gp a0 a1 r1 r2 p0 p1 : Nat} (h : Laid W g gA gp a0 a1 r1 r2 p0 p1) (hb : Below W.heap.size W W') : Laid W' g gA gp a0 a1 r1 r2 p0 p1 :=
  ⟨(hb.block _ (blk_lt h.1)).trans h.1, (hb.block _ (blk_lt h.2.1)).trans h.2.1, (hb.block _ (blk_lt h.2.2)).trans h.2.2⟩
/-- The numbers of both. -/
def Nums (a0 a1 r1 r2 p0 p1 : Nat) (X Y W H PX PY : Int) : Prop := (Sw a0 X ∧ Sw a1 Y) ∧ (Sw r1 (X + W) ∧ Sw r2 (Y + H)) ∧ Sw p0 PX ∧ Sw p1 PY
theorem two_rect {V : World} {g gA gp a0 a1 r1 r2 p0 p1 : Nat} {X Y W H PX PY : Int} (h : Laid V g gA gp a0 a1 r1 r2 p0 p1) (hN : Nums a0 a1 r1 r2 p0 p1 X Y W H PX PY) : Two V gp 1 g 1 5 (some ⟨gA, 0, none⟩) p0 p1 (PX, PY) (recW a0 a1 r1 r2) (recL X Y W H) :=
  ⟨rec_is hN.1.1 hN.1.2 hN.2.1.1 hN.2.1.2, hN.2.2, fun k hk => rec_ax X Y W H k hk, ⟨by show 5 ≤ 1000; omega, by show 0 < 5; omega⟩, one_Q h.2.2, by rw [Lib.cell_of_heap h.1]; rfl, five_Q h.2.1⟩
section
variable {g gA gp a0 a1 r1 r2 p0 p1 : Nat} {X Y W H PX PY : Int}
theorem rW_ok (hN : Nums a0 a1 r1 r2 p0 p1 X Y W H PX PY) (V : World) (h : Laid V g gA gp a0 a1 r1 r2 p0 p1) :
    Calls Tryz.prog 6 #[geoP gp 1, geoR g 1] V fun e w' => e = .returned (.bool (!bndR X Y W H PX PY && crR X Y W H PX PY)) ∧ Below V.heap.size V w' := gW_ok gp 1 g 1 5 _ p0 p1 (PX, PY) _ _ V (two_rect h hN)
theorem rI_ok (hN : Nums a0 a1 r1 r2 p0 p1 X Y W H PX PY) (V : World) (h : Laid V g gA gp a0 a1 r1 r2 p0 p1) :
    Calls Tryz.prog 7 #[geoP gp 1, geoR g 1] V fun e w' => e = .returned (.bool (bndR X Y W H PX PY || crR X Y W H PX PY)) ∧ Below V.heap.size V w' := gI_ok gp 1 g 1 5 _ p0 p1 (PX, PY) _ _ V (two_rect h hN)
theorem rJ_ok (hN : Nums a0 a1 r1 r2 p0 p1 X Y W H PX PY) (V : World) (h : Laid V g gA gp a0 a1 r1 r2 p0 p1) :
    Calls Tryz.prog 7 #[geoR g 1, geoP gp 1] V fun e w' => e = .returned (.bool (bndR X Y W H PX PY || crR X Y W H PX PY)) ∧ Below V.heap.size V w' := gJ_ok gp 1 g 1 5 _ p0 p1 (PX, PY) _ _ V (two_rect h hN)
end
theorem isF_one : IsF 4607182418800017408 1 := isF_lit (m := 4503599627370496) (n := 1) (k := 52) (by decide) (by decide) (by decide)
theorem nums_known {rr : Nat} (hr : IsF rr (0 + 2)) : Nums 0 0 rr rr 4607182418800017408 4607182418800017408 0 0 2 2 1 1 :=
  ⟨⟨⟨isF_zero, by decide, by decide⟩, ⟨isF_zero, by decide, by decide⟩⟩, ⟨⟨hr, by decide, by decide⟩, ⟨hr, by decide, by decide⟩⟩, ⟨isF_one, by decide, by decide⟩, ⟨isF_one, by decide, by decide⟩⟩
theorem known_ok {g gA gp rr : Nat} (hr : IsF rr (0 + 2)) (V : World) (h : Laid V g gA gp 0 0 rr rr 4607182418800017408 4607182418800017408) :
    Calls Tryz.prog 6 #[geoP gp 1, geoR g 1] V fun e w' => e = .returned (.bool true) ∧ Below V.heap.size V w' := by
  have H := rW_ok (nums_known hr) V h
  rw [rec_known] at H
  exact H
end Go.Proofs.YtjhgmpeoagndjaaGreat.GE
