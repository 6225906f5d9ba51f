/-
  Contracts of MySQLRange.Overlaps and IsConnected: column by column. No condition but that there are at most 1000 columns, as many in both.
-/
import Derived.Test.YtlcoodjkolponaaDoorRRc
namespace Go.Proofs.YtlcoodjkolponaaDoor.PRR
open Go.RowKit Go.Proofs.YtlcoodjkolponaaDoorW.PrintWords Go.Proofs.YtlcoodjkolponaaDoorW.PrintLast Go.Proofs.YtlcoodjkolponaaDoorW.PrintMore
open Go.Proofs.YtlcoodjkolponaaDoor.PRG (C cmpC typV)
set_option linter.unusedVariables false
set_option linter.unusedSimpArgs false
set_option maxRecDepth 100000
set_option maxHeartbeats 4000000

theorem kept_alloc {W w1 : World} {cs : Array Value} {t : TypeId} (hb : Below (W.alloc (.cells cs t (0, 0))).heap.size (W.alloc (.cells cs t (0, 0))) w1) : w1.heap[W.heap.size]? = some (.cells cs t (0, 0)) := blk_below (blk_new _ _) hb
theorem rrOver_ok (n : Nat) (A1 : Option Addr) (c1 : Nat) (a : List (C × C)) (A2 : Option Addr) (c2 : Nat) (b : List (C × C)) (hl : n ≤ 1000) (ha : a.length = n) (hb : b.length = n) (w : World) (hA : Kd.C kE w A1 n a) (hB : Kd.C kE w A2 n b) :
    Calls Tryd.prog 76 #[.slice A1 n c1, .slice A2 n c2] w fun e w' => e = .returned (.tuple #[.bool (all2 ovE a b), .nilIface]) ∧ Below w.heap.size w w' := by
  have HA := Aside0.mk (fun W (h : Below w.heap.size w W) => Kd.C_below hA h)
  have HB := Aside0.mk (fun W (h : Below w.heap.size w W) => Kd.C_below hB h)
  have La := Aside0.mk ha
  have Lb := Aside0.mk hb
  clear hA hB ha hb
  go_enter Tryd.func76, Tryd.ntmps76
  go_wp2
  go_loopw [17] (fun t wr => ∃ k : Nat, t = .int .i64 (k : Int) ∧ k ≤ n ∧ Aside0 (all2 ovE (a.take k) (b.take k) = true) ∧ Aside0 (Below w.heap.size w wr)) (fun t _ => n - (intOf t).toNat)
  case atStart => exact ⟨0, rfl, Nat.zero_le _, ⟨rfl⟩, ⟨Below.refl _ _⟩⟩
  case round =>
    obtain ⟨k, rfl, hk, HT, HW⟩ := hrel
    rcases Nat.lt_or_ge k n with hlt | hge
    · have hka : k < a.length := by rw [La.out]; exact hlt
      have hkb : k < b.length := by rw [Lb.out]; exact hlt
      obtain ⟨ad, rfl, g0, g1, g2⟩ := at_E (HA.out wr HW.out) k hlt hka
      obtain ⟨bd, rfl, f0, f1, f2⟩ := at_E (HB.out wr HW.out) k hlt hkb
      have ga0 := fun (o : Obj) => (World.cell?_alloc_lt wr _ (o := o) (World.block_lt_of_cell? wr _ g0)).trans g0
      have gd0 : ∀ o : Obj, (wr.drew.alloc o).cell? _ = _ := fun o => (World.cell?_alloc_lt wr.drew _ (o := o) (World.block_lt_of_cell? wr _ g0)).trans g0
      have ga1 := fun (o : Obj) => (World.cell?_alloc_lt wr _ (o := o) (World.block_lt_of_cell? wr _ g1)).trans g1
      have gd1 : ∀ o : Obj, (wr.drew.alloc o).cell? _ = _ := fun o => (World.cell?_alloc_lt wr.drew _ (o := o) (World.block_lt_of_cell? wr _ g1)).trans g1
      have ga2 := fun (o : Obj) => (World.cell?_alloc_lt wr _ (o := o) (World.block_lt_of_cell? wr _ g2)).trans g2
      have gd2 : ∀ o : Obj, (wr.drew.alloc o).cell? _ = _ := fun o => (World.cell?_alloc_lt wr.drew _ (o := o) (World.block_lt_of_cell? wr _ g2)).trans g2
      have fa0 := fun (o : Obj) => (World.cell?_alloc_lt wr _ (o := o) (World.block_lt_of_cell? wr _ f0)).trans f0
      have fd0 : ∀ o : Obj, (wr.drew.alloc o).cell? _ = _ := fun o => (World.cell?_alloc_lt wr.drew _ (o := o) (World.block_lt_of_cell? wr _ f0)).trans f0
      have fa1 := fun (o : Obj) => (World.cell?_alloc_lt wr _ (o := o) (World.block_lt_of_cell? wr _ f1)).trans f1
      have fd1 : ∀ o : Obj, (wr.drew.alloc o).cell? _ = _ := fun o => (World.cell?_alloc_lt wr.drew _ (o := o) (World.block_lt_of_cell? wr _ f1)).trans f1
      have fa2 := fun (o : Obj) => (World.cell?_alloc_lt wr _ (o := o) (World.block_lt_of_cell? wr _ f2)).trans f2
      have fd2 : ∀ o : Obj, (wr.drew.alloc o).cell? _ = _ := fun o => (World.cell?_alloc_lt wr.drew _ (o := o) (World.block_lt_of_cell? wr _ f2)).trans f2
      have HT1 := Aside0.mk (all2_take ovE a b k hka hkb)
      have HN := Aside0.mk (all2_no ovE a b k hka hkb)
      have HE := Aside0.mk (overlap_ok a[k] b[k])
      generalize a[k] = p at *
      generalize b[k] = q at *
      generalize p.1 = p1 at *
      generalize p.2 = p2 at *
      generalize q.1 = q1 at *
      generalize q.2 = q2 at *
      clear hka hkb
      cases hq : ovE p q
      all_goals
        rw [hq] at HE HT1
        go_wp2
        go_region_with (go_at_call 90; refine (HE.out _).mono ?_; rintro e w2 ⟨v0, v1, v2, ⟨⟨t0_, x0_, rfl⟩, ⟨t1_, x1_, rfl⟩, ⟨t2_, x2_, rfl⟩⟩, rfl, hb2⟩; have HW2 : Aside0 (Below w.heap.size w w2) := ⟨by first | exact HW.out.trans (hb2.mono HW.out.size) | exact (below_drew HW.out).trans (hb2.mono HW.out.size) | exact (below_alloc HW.out _).trans (hb2.mono (below_alloc HW.out _).size) | exact (below_drew (below_alloc HW.out _)).trans (hb2.mono (below_alloc HW.out _).size)⟩; (try (have k0 : w2.heap[wr.heap.size]? = some (.cells #[.nilIface, .nilIface, .nilIface] 96 (0, 0)) := blk_below (by first | exact blk_new _ _ | exact blk_drew (blk_new _ _)) hb2; have t0 := blk_cell k0 0; have t1 := blk_cell k0 1; have t2 := blk_cell k0 2; have u0 := blk_frozen k0 0; have u1 := blk_frozen k0 1; have u2 := blk_frozen k0 2; simp at t0 t1 t2)); clear hb2)
        all_goals go_wp2
        all_goals first
          | (go_ret2
             exact ⟨by rw [HN.out hq] <;> rfl, by repeat (first | (with_reducible exact HW2.out) | (with_reducible apply below_drew) | (refine below_alloc ?_ _) | (refine Below.setCell ?_ (by have := HW.out.size; simp <;> omega) _))⟩)
          | (go_roundw
             case rel => exact ⟨k + 1, by go_num, by omega, ⟨by rw [HT1.out, HT.out]; rfl⟩, ⟨by repeat (first | (with_reducible exact HW2.out) | (with_reducible apply below_drew) | (refine below_alloc ?_ _) | (refine Below.setCell ?_ (by have := HW.out.size; simp <;> omega) _))⟩⟩
             case measure => simp [intOf]; omega)
    · obtain rfl : k = n := by omega
      have hr : all2 ovE a b = true := by have h := HT.out; rwa [List.take_of_length_le (by rw [La.out]; exact Nat.le_refl _), List.take_of_length_le (by rw [Lb.out]; exact Nat.le_refl _)] at h
      have HRes := Aside0.mk hr
      clear hr
      go_wp2
      go_ret2
      exact ⟨by rw [HRes.out] <;> rfl, HW.out⟩
theorem rrTouch_ok (n : Nat) (A1 : Option Addr) (c1 : Nat) (a : List (C × C)) (A2 : Option Addr) (c2 : Nat) (b : List (C × C)) (hl : n ≤ 1000) (ha : a.length = n) (hb : b.length = n) (w : World) (hA : Kd.C kE w A1 n a) (hB : Kd.C kE w A2 n b) :
    Calls Tryd.prog 78 #[.slice A1 n c1, .slice A2 n c2] w fun e w' => e = .returned (.tuple #[.bool (all2 ovE a b), .nilIface]) ∧ Below w.heap.size w w' := by
  have HA := Aside0.mk (fun W (h : Below w.heap.size w W) => Kd.C_below hA h)
  have HB := Aside0.mk (fun W (h : Below w.heap.size w W) => Kd.C_below hB h)
  have La := Aside0.mk ha
  have Lb := Aside0.mk hb
  clear hA hB ha hb
  go_enter Tryd.func78, Tryd.ntmps78
  go_wp2
  go_loopw [17] (fun t wr => ∃ k : Nat, t = .int .i64 (k : Int) ∧ k ≤ n ∧ Aside0 (all2 ovE (a.take k) (b.take k) = true) ∧ Aside0 (Below w.heap.size w wr)) (fun t _ => n - (intOf t).toNat)
  case atStart => exact ⟨0, rfl, Nat.zero_le _, ⟨rfl⟩, ⟨Below.refl _ _⟩⟩
  case round =>
    obtain ⟨k, rfl, hk, HT, HW⟩ := hrel
    rcases Nat.lt_or_ge k n with hlt | hge
    · have hka : k < a.length := by rw [La.out]; exact hlt
      have hkb : k < b.length := by rw [Lb.out]; exact hlt
      obtain ⟨ad, rfl, g0, g1, g2⟩ := at_E (HA.out wr HW.out) k hlt hka
      obtain ⟨bd, rfl, f0, f1, f2⟩ := at_E (HB.out wr HW.out) k hlt hkb
      have ga0 := fun (o : Obj) => (World.cell?_alloc_lt wr _ (o := o) (World.block_lt_of_cell? wr _ g0)).trans g0
      have gd0 : ∀ o : Obj, (wr.drew.alloc o).cell? _ = _ := fun o => (World.cell?_alloc_lt wr.drew _ (o := o) (World.block_lt_of_cell? wr _ g0)).trans g0
      have ga1 := fun (o : Obj) => (World.cell?_alloc_lt wr _ (o := o) (World.block_lt_of_cell? wr _ g1)).trans g1
      have gd1 : ∀ o : Obj, (wr.drew.alloc o).cell? _ = _ := fun o => (World.cell?_alloc_lt wr.drew _ (o := o) (World.block_lt_of_cell? wr _ g1)).trans g1
      have ga2 := fun (o : Obj) => (World.cell?_alloc_lt wr _ (o := o) (World.block_lt_of_cell? wr _ g2)).trans g2
      have gd2 : ∀ o : Obj, (wr.drew.alloc o).cell? _ = _ := fun o => (World.cell?_alloc_lt wr.drew _ (o := o) (World.block_lt_of_cell? wr _ g2)).trans g2
      have fa0 := fun (o : Obj) => (World.cell?_alloc_lt wr _ (o := o) (World.block_lt_of_cell? wr _ f0)).trans f0
      have fd0 : ∀ o : Obj, (wr.drew.alloc o).cell? _ = _ := fun o => (World.cell?_alloc_lt wr.drew _ (o := o) (World.block_lt_of_cell? wr _ f0)).trans f0
      have fa1 := fun (o : Obj) => (World.cell?_alloc_lt wr _ (o := o) (World.block_lt_of_cell? wr _ f1)).trans f1
      have fd1 : ∀ o : Obj, (wr.drew.alloc o).cell? _ = _ := fun o => (World.cell?_alloc_lt wr.drew _ (o := o) (World.block_lt_of_cell? wr _ f1)).trans f1
      have fa2 := fun (o : Obj) => (World.cell?_alloc_lt wr _ (o := o) (World.block_lt_of_cell? wr _ f2)).trans f2
      have fd2 : ∀ o : Obj, (wr.drew.alloc o).cell? _ = _ := fun o => (World.cell?_alloc_lt wr.drew _ (o := o) (World.block_lt_of_cell? wr _ f2)).trans f2
      have HT1 := Aside0.mk (all2_take ovE a b k hka hkb)
      have HN := Aside0.mk (all2_no ovE a b k hka hkb)
      have HE := Aside0.mk (overlap_ok a[k] b[k])
      generalize a[k] = p at *
      generalize b[k] = q at *
      generalize p.1 = p1 at *
      generalize p.2 = p2 at *
      generalize q.1 = q1 at *
      generalize q.2 = q2 at *
      clear hka hkb
      cases hq : ovE p q
      all_goals
        rw [hq] at HE HT1
        go_wp2
        go_region_with (go_at_call 90; refine (HE.out _).mono ?_; rintro e w2 ⟨v0, v1, v2, ⟨⟨t0_, x0_, rfl⟩, ⟨t1_, x1_, rfl⟩, ⟨t2_, x2_, rfl⟩⟩, rfl, hb2⟩; have HW2 : Aside0 (Below w.heap.size w w2) := ⟨by first | exact HW.out.trans (hb2.mono HW.out.size) | exact (below_drew HW.out).trans (hb2.mono HW.out.size) | exact (below_alloc HW.out _).trans (hb2.mono (below_alloc HW.out _).size) | exact (below_drew (below_alloc HW.out _)).trans (hb2.mono (below_alloc HW.out _).size)⟩; (try (have k0 : w2.heap[wr.heap.size]? = some (.cells #[.nilIface, .nilIface, .nilIface] 96 (0, 0)) := blk_below (by first | exact blk_new _ _ | exact blk_drew (blk_new _ _)) hb2; have t0 := blk_cell k0 0; have t1 := blk_cell k0 1; have t2 := blk_cell k0 2; have u0 := blk_frozen k0 0; have u1 := blk_frozen k0 1; have u2 := blk_frozen k0 2; simp at t0 t1 t2)); clear hb2)
        all_goals go_wp2
        all_goals first
          | (go_ret2
             exact ⟨by rw [HN.out hq] <;> rfl, by repeat (first | (with_reducible exact HW2.out) | (with_reducible apply below_drew) | (refine below_alloc ?_ _) | (refine Below.setCell ?_ (by have := HW.out.size; simp <;> omega) _))⟩)
          | (go_roundw
             case rel => exact ⟨k + 1, by go_num, by omega, ⟨by rw [HT1.out, HT.out]; rfl⟩, ⟨by repeat (first | (with_reducible exact HW2.out) | (with_reducible apply below_drew) | (refine below_alloc ?_ _) | (refine Below.setCell ?_ (by have := HW.out.size; simp <;> omega) _))⟩⟩
             case measure => simp [intOf]; omega)
    · obtain rfl : k = n := by omega
      have hr : all2 ovE a b = true := by have h := HT.out; rwa [List.take_of_length_le (by rw [La.out]; exact Nat.le_refl _), List.take_of_length_le (by rw [Lb.out]; exact Nat.le_refl _)] at h
      have HRes := Aside0.mk hr
      clear hr
      go_wp2
      go_ret2
      exact ⟨by rw [HRes.out] <;> rfl, HW.out⟩
end Go.Proofs.YtlcoodjkolponaaDoor.PRR
