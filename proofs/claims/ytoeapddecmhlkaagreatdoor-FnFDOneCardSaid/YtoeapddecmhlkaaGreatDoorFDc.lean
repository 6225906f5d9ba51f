/-
  Contracts of a step that makes at most one row, and of what is asked of it. Condition: small sets.
-/
import Derived.Test.YtoeapddecmhlkaaGreatDoorFDb
namespace Go.Proofs.YtoeapddecmhlkaaGreatDoor.FD
open Go.RowKit Go.Proofs.YtoeapddecmhlkaaGreatDoorW.PrintWords Go.Proofs.YtoeapddecmhlkaaGreatDoorW.PrintLast Go.Proofs.YtoeapddecmhlkaaGreatDoorW.PrintMore
set_option linter.unusedVariables false
set_option linter.unusedSimpArgs false
set_option maxRecDepth 100000
set_option maxHeartbeats 400000

/-- Contract of NewMax1RowFDs. -/
theorem max1_ok (a n : Nat) (w : World) : Calls Tryz.prog 20 #[cv a, cv n] w fun e w' => ∃ f gk ck, e = .returned (.pointer (some ⟨f, 0, none⟩)) ∧ Dep w' f gk ck a n ∧ Below w.heap.size w w' := by
  have hB := below_alloc (below_alloc (below_alloc (Below.refl w.heap.size w) (.cells #[.int .u64 (a : Int), .pointer none] 49)) (.cells #[.int .u64 (n : Int), .pointer none] 49)) (fo a n (.slice none 0 0))
  have hs : ((w.alloc (.cells #[.int .u64 (a : Int), .pointer none] 49)).alloc (.cells #[.int .u64 (n : Int), .pointer none] 49)).heap.size = w.heap.size + 1 + 1 := by simp
  have hN := heap_alloc_new ((w.alloc (.cells #[.int .u64 (a : Int), .pointer none] 49)).alloc (.cells #[.int .u64 (n : Int), .pointer none] 49)) (fo a n (.slice none 0 0))
  rw [hs] at hN
  have H := Aside0.mk (addKey_ok (w.heap.size + 1 + 1) a n _ hN)
  have HB := Aside0.mk hB
  clear hB hs hN
  go_enter Tryz.func20, Tryz.ntmps20
  go_wp2_with fail
  refine H.out.mono ?_
  rintro e w2 ⟨rfl, ⟨gk, ck, hD, hgk⟩, hst⟩
  have HD := Aside0.mk hD
  have HB2 := Aside0.mk (HB.out.trans (hst.below (B := w.heap.size) (by simp; omega) (fun k hk => by have hk : k = w.heap.size + 1 + 1 := hk; omega)))
  clear hD hgk hst H HB
  go_wp2_with fail
  go_ret
  exact ⟨_, _, _, rfl, HD.out, HB2.out⟩
theorem strict_ok (f gk ck a n : Nat) (w : World) (h : Dep w f gk ck a n) : Calls Tryz.prog 27 #[.pointer (some ⟨f, 0, none⟩)] w fun e w' => e = .returned (.tuple #[cv 0, .bool true]) ∧ Below w.heap.size w w' := by
  obtain ⟨h1, zs, h2⟩ := h
  obtain ⟨r0, r1, r2, r3, r4, r5, r6, r7⟩ := cells8 h1
  obtain ⟨m0, m1, m2, m3, m4⟩ := cells5 h2
  have l1 := blk_lt h1
  have l2 := blk_lt h2
  clear h1 h2
  go_enter Tryz.func27, Tryz.ntmps27
  go_wp2
  have hN := heap_alloc_new w (.cells #[.int .u64 0, .pointer none] 49)
  obtain ⟨c0, c1⟩ := cells2 hN
  refine bodyPost_ret (v := .tuple #[cv 0, .bool true]) ?_ rfl ⟨rfl, below_alloc (Below.refl _ _) _⟩
  simp [results, Tryz.results27, go_sem, c0, c1]
theorem lax_ok (f gk ck a n : Nat) (w : World) (h : Dep w f gk ck a n) : Calls Tryz.prog 28 #[.pointer (some ⟨f, 0, none⟩)] w fun e w' => e = .returned (.tuple #[cv 0, .bool false]) ∧ Below w.heap.size w w' := by
  obtain ⟨h1, zs, h2⟩ := h
  obtain ⟨r0, r1, r2, r3, r4, r5, r6, r7⟩ := cells8 h1
  obtain ⟨m0, m1, m2, m3, m4⟩ := cells5 h2
  have l1 := blk_lt h1
  have l2 := blk_lt h2
  clear h1 h2
  go_enter Tryz.func28, Tryz.ntmps28
  go_wp2
  have hN := heap_alloc_new w (.cells #[.int .u64 0, .pointer none] 49)
  obtain ⟨c0, c1⟩ := cells2 hN
  refine bodyPost_ret (v := .tuple #[cv 0, .bool false]) ?_ rfl ⟨rfl, below_alloc (Below.refl _ _) _⟩
  simp [results, Tryz.results28, go_sem, c0, c1]
theorem all_ok (f gk ck a n : Nat) (w : World) (h : Dep w f gk ck a n) : Calls Tryz.prog 30 #[.pointer (some ⟨f, 0, none⟩)] w fun e w' => e = .returned (cv a) ∧ Below w.heap.size w w' := by
  obtain ⟨h1, zs, h2⟩ := h
  obtain ⟨r0, r1, r2, r3, r4, r5, r6, r7⟩ := cells8 h1
  have l1 := blk_lt h1
  clear h1 h2
  go_enter Tryz.func30, Tryz.ntmps30
  go_wp2
  have hN := heap_alloc_new w (.cells #[.int .u64 (a : Int), .pointer none] 49)
  refine bodyPost_ret (results_cell_row rfl _ _ w.heap.size 49 #[.int .u64 (a : Int), .pointer none] (0, 0) _ rfl hN Tryz.underlying49 rfl (by kernel_rfl)) rfl ?_
  exact ⟨rfl, below_alloc (Below.refl _ _) _⟩
theorem notNull_ok (f gk ck a n : Nat) (w : World) (h : Dep w f gk ck a n) : Calls Tryz.prog 31 #[.pointer (some ⟨f, 0, none⟩)] w fun e w' => e = .returned (cv n) ∧ Below w.heap.size w w' := by
  obtain ⟨h1, zs, h2⟩ := h
  obtain ⟨r0, r1, r2, r3, r4, r5, r6, r7⟩ := cells8 h1
  have l1 := blk_lt h1
  clear h1 h2
  go_enter Tryz.func31, Tryz.ntmps31
  go_wp2
  have hN := heap_alloc_new w (.cells #[.int .u64 (n : Int), .pointer none] 49)
  refine bodyPost_ret (results_cell_row rfl _ _ w.heap.size 49 #[.int .u64 (n : Int), .pointer none] (0, 0) _ rfl hN Tryz.underlying49 rfl (by kernel_rfl)) rfl ?_
  exact ⟨rfl, below_alloc (Below.refl _ _) _⟩
theorem consts_ok (f gk ck a n : Nat) (w : World) (h : Dep w f gk ck a n) : Calls Tryz.prog 32 #[.pointer (some ⟨f, 0, none⟩)] w fun e w' => e = .returned (cv a) ∧ Below w.heap.size w w' := by
  obtain ⟨h1, zs, h2⟩ := h
  obtain ⟨r0, r1, r2, r3, r4, r5, r6, r7⟩ := cells8 h1
  have l1 := blk_lt h1
  clear h1 h2
  go_enter Tryz.func32, Tryz.ntmps32
  go_wp2
  have hN := heap_alloc_new w (.cells #[.int .u64 (a : Int), .pointer none] 49)
  refine bodyPost_ret (results_cell_row rfl _ _ w.heap.size 49 #[.int .u64 (a : Int), .pointer none] (0, 0) _ rfl hN Tryz.underlying49 rfl (by kernel_rfl)) rfl ?_
  exact ⟨rfl, below_alloc (Below.refl _ _) _⟩
theorem equiv_ok (f gk ck a n : Nat) (w : World) (h : Dep w f gk ck a n) : Calls Tryz.prog 34 #[.pointer (some ⟨f, 0, none⟩)] w fun e w' => e = .returned (.pointer none) ∧ Below w.heap.size w w' := by
  obtain ⟨h1, zs, h2⟩ := h
  obtain ⟨r0, r1, r2, r3, r4, r5, r6, r7⟩ := cells8 h1
  clear h1 h2
  go_enter Tryz.func34, Tryz.ntmps34
  go_wp2
  go_ret
  exact ⟨rfl, Below.refl _ _⟩
theorem sets_ok (w : World) : Calls Tryz.prog 35 #[.pointer none] w fun e w' => e = .returned (.slice none 0 0) ∧ Below w.heap.size w w' := by
  go_enter Tryz.func35, Tryz.ntmps35
  go_wp2
  go_ret
  exact ⟨rfl, Below.refl _ _⟩
theorem turned0_ok (w : World) : Calls Tryz.prog 33 #[.slice none 0 0, .func (.func 29) #[] #[]] w fun e w' => e = .returned (.slice none 0 0) ∧ Below w.heap.size w w' := by
  go_enter Tryz.func33, Tryz.ntmps33
  go_wp2
  go_loopw [5, 10] (fun t5 t10 wr => t5 = .slice none 0 0 ∧ t10 = .int .i64 0 ∧ Aside0 (Below w.heap.size w wr)) (fun _ _ _ => 0)
  case atStart => exact ⟨rfl, rfl, ⟨Below.refl _ _⟩⟩
  case round =>
    obtain ⟨rfl, rfl, HB⟩ := hrel
    go_wp2
    go_ret
    exact ⟨rfl, HB.out⟩
theorem has_ok (f gk ck a n : Nat) (w : World) (h : Dep w f gk ck a n) : Calls Tryz.prog 36 #[.pointer (some ⟨f, 0, none⟩)] w fun e w' => e = .returned (.bool true) ∧ Below w.heap.size w w' := by
  obtain ⟨h1, zs, h2⟩ := h
  obtain ⟨r0, r1, r2, r3, r4, r5, r6, r7⟩ := cells8 h1
  obtain ⟨m0, m1, m2, m3, m4⟩ := cells5 h2
  have l1 := blk_lt h1
  have l2 := blk_lt h2
  clear h1 h2
  go_enter Tryz.func36, Tryz.ntmps36
  go_wp2
  go_ret
  exact ⟨by kernel_rfl, by repeat (first | (with_reducible exact Below.refl _ _) | (with_reducible apply below_alloc))⟩
end Go.Proofs.YtoeapddecmhlkaaGreatDoor.FD
