/-
  Contracts of lines (one line), and of a geometry's value (a point; a polygon of one line). No condition.
-/
import Derived.Test.YtjhgmpeoagndjaaGreatGWg
namespace Go.Proofs.YtjhgmpeoagndjaaGreat.GE
open Go.RowKit Go.Proofs.YtjhgmpeoagndjaaGreatW.PrintWords Go.Proofs.YtjhgmpeoagndjaaGreatW.PrintLast Go.Proofs.YtjhgmpeoagndjaaGreatW.PrintMore
open Go.Proofs.YtjhgmpeoagndjaaGreat.Flo
set_option linter.unusedVariables false
set_option linter.unusedSimpArgs false
set_option maxRecDepth 100000
set_option maxHeartbeats 4000000

/-- The program's one line of points. -/
def Line (W : World) (v : Value) (l : List (Nat × Nat)) : Prop := ∃ g c gp cp, v = .slice (some ⟨g, 0, none⟩) 1 c ∧ W.cell? ⟨g, 0, none⟩ = some (.int .u32 0) ∧ W.cell? ⟨g, 1, none⟩ = some (.slice (some ⟨gp, 0, none⟩) l.length cp) ∧ Pts W gp l
theorem Line.keep {W W' : World} {v : Value} {l : List (Nat × Nat)} (h : Line W v l) (hb : Below W.heap.size W W') : Line W' v l := by
  obtain ⟨g, c, gp, cp, e, h1, h2, h3⟩ := h
  exact ⟨g, c, gp, cp, e, pw_cell_below hb h1, pw_cell_below hb h2, h3.keep hb⟩
theorem line_made {W : World} {base gp cp : Nat} {l : List (Nat × Nat)} {v : Value} (h : kL.R 54 W base (fun _ => True) v [((0 : Int), some ⟨gp, 0, none⟩, l.length, cp)]) (hp : Pts W gp l) : Line W v l := by
  obtain ⟨g, c, rfl, -⟩ := Kd.R_form h (by simp)
  obtain ⟨A, c', he, hle, hC⟩ := Kd.R_reads h
  cases he
  obtain ⟨ad, he, x0, x1⟩ := at_L hC 0 _ rfl
  cases he
  exact ⟨g, c, gp, cp, rfl, x0, x1, hp⟩
theorem turnedL_ok (gL cL c0 g : Nat) (A0 : Option Addr) (l : List (Nat × Nat)) (hl : l.length ≤ 1000) (h0 : 0 < l.length) (w : World) (hL : w.cell? ⟨gL, 0, none⟩ = some (.slice A0 l.length c0)) (hC : kQ.C w A0 l.length l) (hg : w.heap[g]? = some (.cells #[.int .u32 0] 27 (0, 0))) :
    Calls Tryz.prog 32 #[.slice (some ⟨gL, 0, none⟩) 1 cL, .func (.func 33) #[] #[.pointer (some ⟨g, 0, none⟩)]] w fun e w' => ∃ v, e = .returned v ∧ Line w' v l ∧ Below w.heap.size w w' := by
  have HL := Aside0.mk hL
  have HC := Aside0.mk (fun W (h : Below w.heap.size w W) => Kd.C_below hC h)
  have HG := Aside0.mk hg
  have hglt := blk_lt hg
  clear hC hg hL
  go_enter Tryz.func32, Tryz.ntmps32
  go_wp2
  go_loopw [5, 10] (fun t5 t10 wr => (t10 = .int .i64 0 ∧ t5 = .slice none 0 0 ∨ t10 = .int .i64 1 ∧ Aside0 (Line wr t5 l)) ∧ Aside0 (Below w.heap.size w wr)) (fun _ t10 _ => 1 - (intOf t10).toNat)
  case atStart => exact ⟨.inl ⟨rfl, rfl⟩, ⟨Below.refl _ _⟩⟩
  case round =>
    obtain ⟨⟨rfl, rfl⟩ | ⟨rfl, HR⟩, HB⟩ := hrel
    · have hcell : wr.cell? ⟨gL, 0, none⟩ = some (.slice A0 l.length c0) := pw_cell_below HB.out HL.out
      have H := Aside0.mk (lines1_ok A0 c0 g l hl h0 wr (HC.out wr HB.out) ((HB.out.block g hglt).trans HG.out))
      go_wp2_with fail
      refine (H.out).mono ?_
      rintro e w2 ⟨gp, cp, rfl, hp, hb2⟩
      have HB2 := Aside0.mk (below_step HB.out hb2)
      have HP := Aside0.mk hp
      clear hp hb2 H HB
      go_wp2_with ((with_reducible refine gate_builtin (b := .append) (xs := #[.tmp 14, .tmp 18]) rfl ?_); at_builtin; go_loud (refine Kd.R_append kL (w0 := w2) (W := w2) w2.heap.size rfl (.tmp 14) (.tmp 18) 55 54 (.agg #[.int .u32 0, .slice none 0 0]) 32 rfl Tryz.underlying55 infoL rfl (by decide) (by decide) (.slice none 0 0) [] ((0 : Int), some ⟨gp, 0, none⟩, l.length, cp) [.int .u32 0, .slice (some ⟨gp, 0, none⟩) l.length cp] (fun _ => True) (fun _ => False) rfl rfl ⟨[.int .u32 0], [.slice (some ⟨gp, 0, none⟩) l.length cp], rfl, rfl, rfl⟩ (fun z hz => hz.elim) (fun _ _ => trivial) (Kd.R_nil _ _ _ _ _) (Below.refl _ _) (Nat.le_refl _) (by decide) ?_; intro v1 w3 ho hb3 hg3 hat; clear hg3 hat; have HO3 := Aside0.mk (line_made ho (HP.out.keep hb3)); have HB3 := Aside0.mk (below_step HB2.out hb3); clear ho hb3))
      go_roundw
      case rel => exact ⟨.inr ⟨rfl, HO3⟩, HB3⟩
      case measure => decide
    · have h5 := HR.out
      obtain ⟨g5, c5, gp, cp, rfl, h6⟩ := h5
      go_wp2
      go_ret
      exact ⟨_, rfl, HR.out, HB.out⟩
theorem lines_ok (gL cL c0 : Nat) (A0 : Option Addr) (l : List (Nat × Nat)) (hl : l.length ≤ 1000) (h0 : 0 < l.length) (w : World) (hL : w.cell? ⟨gL, 0, none⟩ = some (.slice A0 l.length c0)) (hC : kQ.C w A0 l.length l) :
    Calls Tryz.prog 23 #[.slice (some ⟨gL, 0, none⟩) 1 cL, .int .u32 0] w fun e w' => ∃ v, e = .returned v ∧ Line w' v l ∧ Below w.heap.size w w' := by
  have hb := below_alloc (Below.refl w.heap.size w) (.cells #[.int .u32 0] 27)
  have H := Aside0.mk (turnedL_ok gL cL c0 w.heap.size A0 l hl h0 (w.alloc (.cells #[.int .u32 0] 27)) (pw_cell_below hb hL) (Kd.C_below hC hb) (heap_alloc_new _ _))
  have HB := Aside0.mk hb
  clear hC hb hL
  go_enter Tryz.func23, Tryz.ntmps23
  go_wp2_with fail
  refine (H.out).mono ?_
  rintro e w2 ⟨v, rfl, hr, hb⟩
  have HB2 := Aside0.mk (HB.out.trans (hb.mono (by simp)))
  have HR := Aside0.mk hr
  obtain ⟨g5, c5, gp, cp, rfl, h6⟩ := hr
  clear hb H HB h6
  go_wp2_with fail
  go_ret
  exact ⟨_, rfl, HR.out, HB2.out⟩
end Go.Proofs.YtjhgmpeoagndjaaGreat.GE
