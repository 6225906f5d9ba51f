/-
  The text of laws.FnVLReads, over contracts of what it calls: it answers true where the number that is read of the bytes is the one that they spell, and is written as they are. Condition: the variable impl.sizes reads as the program lays it.
-/
import Derived.Test.YthicaehcoingeaaDoorPVL1
import Derived.RegionCalls
import Derived.Deep.RegionWith
import Derived.Lib.LaidTab
namespace Go.Proofs.YthicaehcoingeaaDoor.PVL
open Go.RowKit Go.Proofs.YthicaehcoingeaaDoorW.PrintWords Go.Proofs.YthicaehcoingeaaDoorW.PrintLast Go.Proofs.YthicaehcoingeaaDoorW.PrintMore
set_option linter.unusedVariables false
set_option linter.unusedSimpArgs false
set_option maxRecDepth 100000

def sizesL : List Int := [0, 1, 1, 2, 2, 3, 3, 4, 4, 8, 8, 4, 8, 6, 6]
/-- The variable impl.sizes reads as the program lays it. -/
def Glob (w : World) : Prop := ∀ i : Nat, i < 15 → w.cell? ⟨0, i, none⟩ = some (.int .i64 (sizesL.getD i 0))
theorem Glob.later {w w' : World} (h : Glob w) (hb : Below w.heap.size w w') : Glob w' := fun i hi => (hb.cell (World.block_lt_of_cell? w _ (h i hi))).trans (h i hi)

/-- The first bytes of a block of bytes, as a slice reads them. -/
theorem C_bytes {W : World} {B t : Nat} (l r : List Int) (hh : W.heap[B]? = some (.cells ((l ++ r).map (Value.int .u8)).toArray t (0, 0))) (hl : l.length ≤ 1000) : Kd.C (Kd.int .u8) W (some ⟨B, 0, none⟩) l.length l := by
  refine Kd.C_of_reads (enc := Value.int .u8) (d := (0 : Int)) (h1 := fun _ => rfl) ?_
  refine ⟨rfl, by omega, fun h => ⟨_, rfl, fun i hi => ?_⟩⟩
  have hv : ((l ++ r).map (Value.int .u8)).toArray[i]? = some (Value.int .u8 (l.getD i 0)) := by
    have hm : (((l ++ r).map (Value.int .u8)))[i]? = some (Value.int .u8 (l.getD i 0)) := by
      rw [List.getElem?_map, List.getElem?_append_left hi, List.getElem?_eq_getElem hi, Option.map_some, List.getD_eq_getElem?_getD, List.getElem?_eq_getElem hi]
      rfl
    simpa using hm
  have e : (Addr.add ⟨B, 0, none⟩ i) = ⟨B, i, none⟩ := by
    unfold Addr.add; split <;> simp_all
  rw [e]
  exact (blk_cell hh i).trans hv

theorem number_m (k : Nat) (a0 : Int) (A : Option Addr) (c m : Nat) (l : List Int) (r : Int) (w : World) (hm : l.length = m) (hr : Kd.C (Kd.int .u8) w A l.length l) (hc : m ≤ c) (h : spec_VLNumber.f k a0 l = some r) :
    Calls Tryd.prog 18 #[.int .i64 a0, .slice A m c] w fun e w' => e = .returned (.int .u64 r) ∧ ∃ n, w' = w.drewN n := by
  subst hm
  refine (spec_VLNumber.calls k a0 A c l r w hr hc h).mono ?_
  rintro e w' ⟨rfl, hd⟩
  exact ⟨rfl, hd.out⟩

/-- What the law asks of reading: the slice's bytes as a number. -/
def ReadsAs (k : Int) (l : List Int) (n : Int) : Prop := ∀ (W : World) (g c : Nat), Glob W → l.length ≤ c → Kd.C (Kd.int .u8) W (some ⟨g, 0, none⟩) l.length l →
  Calls Tryd.prog 17 #[.int .i64 k, .slice (some ⟨g, 0, none⟩) l.length c] W fun e w' => e = .returned (.int .u64 n) ∧ Below W.heap.size W w'
/-- What the law asks of writing: the number's bytes, in a new slice. -/
def WritesAs (k : Int) (l : List Int) (n : Int) : Prop := ∀ (W : World), Glob W →
  Calls Tryd.prog 9 #[.int .i64 k, .int .u64 n] W fun e w' => ∃ v : Value, e = .returned v ∧ Kd.R (Kd.int .u8) 5 w' W.heap.size (fun _ => True) v l ∧ Below W.heap.size W w'

theorem conv_v {W : World} {base : Nat} {ok : Nat → Prop} {A : Option Addr} {m c : Nat} {l : List Int} (h : Kd.R (Kd.int .u8) 5 W base ok (.slice A m c) l) : (convert 23 9 (.slice A m c)).run Tryd.prog W = .ok (.string (strOfNums l)) W := by
  obtain ⟨A', c', e, _, hC⟩ := Kd.R_reads h
  injection e with e1 e2 e3
  subst e1; subst e2; subst e3
  exact Kd.C_string (e := 5) (by kernel_rfl) (by kernel_rfl) (by kernel_rfl) hC
theorem conv_b {W : World} {A : Option Addr} {m c : Nat} {l : List Int} (hm : l.length = m) (h : Kd.C (Kd.int .u8) W A l.length l) : (convert 23 9 (.slice A m c)).run Tryd.prog W = .ok (.string (strOfNums l)) W := by
  subst hm
  exact Kd.C_string (e := 5) (by kernel_rfl) (by kernel_rfl) (by kernel_rfl) h

set_option maxHeartbeats 2000000 in
theorem reads (a0 : Int) (x0 x1 x2 x3 x4 x5 x6 x7 : Int) (sz : Int) (l : List Int) (hl : [x0, x1, x2, x3, x4, x5, x6, x7].take sz.toNat = l) (hm : l.length = sz.toNat) (k n : Int) (w : World) (hg : Glob w) (hk : laws_vlKind.f a0 = some k) (hs : spec_VLSize.f k = some sz) (h0 : 0 ≤ sz) (h8 : sz ≤ 8)
    (hn : spec_VLNumber.f 20 k l = some n) (hR : ReadsAs k l n) (hW : WritesAs k l n) :
    Calls Tryd.prog 5 #[.int .u8 a0, .agg #[.int .u8 x0, .int .u8 x1, .int .u8 x2, .int .u8 x3, .int .u8 x4, .int .u8 x5, .int .u8 x6, .int .u8 x7]] w fun e w' => e = .returned (.bool true) ∧ Below w.heap.size w w' := by
  have HK := Aside0.mk hk
  have HS := Aside0.mk hs
  have HG := Aside0.mk hg
  have HN := Aside0.mk hn
  have HL := Aside0.mk hl
  have HM := Aside0.mk hm
  clear hk hs hg hn hl hm
  go_enter Tryd.func5, Tryd.ntmps5
  go_wp2_with (first | (go_at_call 15; refine (laws_vlKind.calls _ _ _ HK.out).mono ?_; rintro e w1 ⟨rfl, hb1⟩) | (go_at_call 16; refine (spec_VLSize.calls _ _ _ HS.out).mono ?_; rintro e w2 ⟨rfl, hb2⟩))
  have HB2 := Aside0.mk (below_step (below_step (below_alloc (Below.refl _ _) _) hb1) hb2)
  have HD := Aside0.mk (show w2.heap[w.heap.size]? = some (.cells #[.int .u8 x0, .int .u8 x1, .int .u8 x2, .int .u8 x3, .int .u8 x4, .int .u8 x5, .int .u8 x6, .int .u8 x7] 33 (0, 0)) from by
    rw [hb2.block _ (by have := hb1.size; simp at this; omega), hb1.block _ (by simp)]
    exact heap_alloc_new _ _)
  clear hb1 hb2
  have HC := Aside0.mk (C_bytes (t := 33) l ([x0, x1, x2, x3, x4, x5, x6, x7].drop sz.toNat) (by rw [HL.out.symm, List.take_append_drop]; exact HD.out) (by rw [HM.out]; omega))
  have HG2 := Aside0.mk (Glob.later HG.out HB2.out)
  go_wp2_with (first | (go_at_call 17; have hread := hR w2 w.heap.size 8 HG2.out (by rw [HM.out]; omega) HC.out; rw [HM.out] at hread; refine hread.mono ?_; rintro e w3 ⟨rfl, hb3⟩))
  have HC3 := Aside0.mk (Kd.C_below HC.out hb3)
  have HG3 := Aside0.mk (Glob.later HG2.out hb3)
  have HB3 := Aside0.mk (below_step HB2.out hb3)
  clear hb3 HK HS HD HC HG2 HB2 HG HL
  have hcb : ∀ j, (convert 23 9 (.slice (some ⟨w.heap.size, 0, none⟩) sz.toNat 8)).run Tryd.prog (w3.drewN j) = .ok (.string (strOfNums l)) (w3.drewN j) := fun j => conv_b HM.out (Kd.C_drewN HC3.out j)
  go_region_with (first | (go_at_call 18; refine (number_m 20 k _ 8 _ l n _ HM.out (Kd.C_below HC3.out (by repeat (first | (with_reducible exact Below.refl _ _) | (with_reducible apply below_drew) | (with_reducible apply pw_below_drewN) | (with_reducible apply below_drew1)))) (by omega) HN.out).mono ?_; rintro e w4 ⟨rfl, j, rfl⟩) | (go_at_call 9; (refine (hW _ (Glob.later HG3.out (by repeat (first | (with_reducible exact Below.refl _ _) | (with_reducible apply below_drew) | (with_reducible apply pw_below_drewN) | (with_reducible apply below_drew1))))).mono ?_; rintro e w5 ⟨v, rfl, ho, hb5⟩; obtain ⟨A, c, rfl, -, -⟩ := Kd.R_reads ho; have hcv := conv_v ho; have hcb5 := conv_b (c := 8) HM.out (Kd.C_below (Kd.C_below HC3.out (by repeat (first | (with_reducible exact Below.refl _ _) | (with_reducible apply below_drew) | (with_reducible apply pw_below_drewN) | (with_reducible apply below_drew1)))) hb5))))
  all_goals go_wp2
  all_goals go_ret
  all_goals exact ⟨rfl, below_step (below_step HB3.out (by repeat (first | (with_reducible exact Below.refl _ _) | (with_reducible apply below_drew) | (with_reducible apply pw_below_drewN) | (with_reducible apply below_drew1)))) hb5⟩
end Go.Proofs.YthicaehcoingeaaDoor.PVL
