/-
  sort.Sort over *rangeColumnExprSlice, at most 12 ranges: the library's own insertion sort, walked. Condition: the ranges have values.
-/
import Derived.Test.YtlcoodjkolponaaDoorRTb
import Derived.Sort.WalkA
import Derived.Test.YtlcoodjkolponaaDoorShelfG
import Derived.Test.YtlcoodjkolponaaDoorRGg
namespace Go.Proofs.YtlcoodjkolponaaDoor.PRR
open Go.RowKit Go.Proofs.YtlcoodjkolponaaDoorW.PrintWords Go.Proofs.YtlcoodjkolponaaDoorW.PrintLast Go.Proofs.YtlcoodjkolponaaDoorW.PrintMore
open Go.Sort (swp insInner insOuter swp_get swp_size)
set_option linter.unusedVariables false
set_option linter.unusedSimpArgs false
set_option maxRecDepth 100000
set_option maxHeartbeats 4000000

@[go_sem] theorem method_len (p : Option Addr) (w : World) (n : Nat) : (method (n + 1) 139 (.pointer p) "Len").run Tryd.prog w = .ok (201, .pointer p) w := by kernel_rfl
@[go_sem] theorem method_less (p : Option Addr) (w : World) (n : Nat) : (method (n + 1) 139 (.pointer p) "Less").run Tryd.prog w = .ok (202, .pointer p) w := by kernel_rfl
@[go_sem] theorem method_swap (p : Option Addr) (w : World) (n : Nat) : (method (n + 1) 139 (.pointer p) "Swap").run Tryd.prog w = .ok (203, .pointer p) w := by kernel_rfl
section
variable {w0 : World} {g rb n : Nat}
theorem len201_ok {d : Array S44} {W : World} (h : Srs w0 g rb n d W) : Calls Tryd.prog 201 #[.pointer (some ⟨rb, 0, none⟩)] W fun e w' => e = .returned (.int .i64 (n : Int)) ∧ w' = W := by
  have r0 : W.cell? ⟨rb, 0, none⟩ = some (.slice (some ⟨g, 0, none⟩) n n) := by rw [blk_cell h.box]; rfl
  go_enter Tryd.func201, Tryd.ntmps201
  go_wp2
  go_ret
  exact ⟨rfl, rfl⟩
theorem ins121_ok (hg : w0.heap.size ≤ g) (h1 : rb ≠ g) (hn : n ≤ 12) (d0 : Array S44) (w : World) (hS : Srs w0 g rb n d0 w) :
    Calls Tryd.prog 121 #[.iface 139 (.pointer (some ⟨rb, 0, none⟩)), .int .i64 0, .int .i64 (n : Int)] w fun e w' => e = .returned (.tuple #[]) ∧ Srs w0 g rb n (Go.Sort.insertionSort ltE d0 0 n) w' := by
  have hS1 := Aside0.mk hS
  clear hS
  go_enter Tryd.func121, Tryd.ntmps121
  go_wp2
  go_loopw [6] (fun vi wr => ∃ (i : Nat) (dk : Array S44), vi = .int .i64 (i : Int) ∧ 0 < i ∧ i ≤ n + 1 ∧ Aside0 (Srs w0 g rb n dk wr) ∧ Aside0 (insOuter ltE 0 n i dk = insOuter ltE 0 n (0 + 1) d0)) (fun vi _ => n + 1 - (intOf vi).toNat)
  case atStart => exact ⟨1, d0, by go_num, by omega, by omega, hS1, ⟨rfl⟩⟩
  case round =>
    obtain ⟨i, dk, rfl, hi0, hin, HS, HO⟩ := hrel
    clear hS1
    go_wp2
    · go_loopw [7] (fun vj wr2 => ∃ (j : Nat) (dj : Array S44), vj = .int .i64 (j : Int) ∧ j ≤ i ∧ Aside0 (Srs w0 g rb n dj wr2) ∧ Aside0 (insInner ltE 0 j dj = insInner ltE 0 i dk)) (fun vj _ => (intOf vj).toNat)
      case atStart => exact ⟨i, dk, rfl, Nat.le_refl _, HS, ⟨rfl⟩⟩
      case round =>
        obtain ⟨j, dj, rfl, hji, HS2, HI⟩ := hrel
        have hlt : i < n := by omega
        have OUT := Aside0.mk (show (j ≤ 0 ∨ ltE dj[j]! dj[j - 1]! = false) → insOuter ltE 0 n (i + 1) dj = insOuter ltE 0 n (0 + 1) d0 from fun h => by rw [← HO.out, insOuter_go _ _ _ _ _ hlt, ← HI.out, insInner_stop _ _ _ _ h])
        by_cases hj : 0 < j
        · have hl := Aside0.mk (less202_ok HS2.out (by omega) j (j - 1) (by omega) (by omega))
          have hw := Aside0.mk (fun W (h : Srs w0 g rb n dj W) => swap203_ok h hg h1 (by omega) j (j - 1) (by omega) (by omega) (by omega))
          rw [show (((j - 1 : Nat) : Int)) = (j : Int) - 1 by omega] at hl hw
          cases hlv : ltE dj[j]! dj[j - 1]! with
          | true =>
            rw [hlv] at hl
            have HI4 := Aside0.mk (show insInner ltE 0 (j - 1) (swp dj j (j - 1)) = insInner ltE 0 i dk by rw [← HI.out, insInner_go ltE 0 j dj hj hlv])
            go_wp2_with (first
              | (go_at_call 202; refine hl.out.mono ?_; rintro e w2 ⟨rfl, hb⟩; have HS3 := Aside0.mk (HS2.out.step hb); clear hb)
              | (go_at_call 203; refine (hw.out _ HS3.out).mono ?_; rintro e w3 ⟨rfl, hs⟩; have HS4 := Aside0.mk hs; clear hs))
            go_roundw
            case rel =>
              (repeat apply Exists.intro)
              refine ⟨⟨j - 1, swp dj j (j - 1), by congr 1 <;> omega, by omega, HS4, HI4⟩, ?_⟩
              rw [decide_eq_true hlt, show ((j - 1 : Nat) : Int) = (j : Int) - 1 by omega]
            case measure => simp [intOf]; omega
          | false =>
            rw [hlv] at hl
            go_wp2_with (go_at_call 202; refine hl.out.mono ?_; rintro e w2 ⟨rfl, hb⟩; have HS3 := Aside0.mk (HS2.out.step hb); clear hb)
            go_roundw
            case rel => exact ⟨i + 1, dj, by go_num, by omega, by omega, HS3, ⟨OUT.out (.inr hlv)⟩⟩
            case measure => simp [intOf]; omega
        · go_wp2
          go_roundw
          case rel => exact ⟨i + 1, dj, by go_num, by omega, by omega, HS2, ⟨OUT.out (.inl (by omega))⟩⟩
          case measure => simp [intOf]; omega
    · go_end0
      exact ⟨rfl, by unfold Go.Sort.insertionSort; rw [← HO.out, insOuter_stop _ _ _ _ _ (by omega)]; exact HS.out⟩
theorem pdq101_ok (hg : w0.heap.size ≤ g) (h1 : rb ≠ g) (hn : n ≤ 12) (d0 : Array S44) (w : World) (hS : Srs w0 g rb n d0 w) (lim : Int) :
    Calls Tryd.prog 101 #[.iface 139 (.pointer (some ⟨rb, 0, none⟩)), .int .i64 0, .int .i64 (n : Int), .int .i64 lim] w fun e w' => e = .returned (.tuple #[]) ∧ Srs w0 g rb n (Go.Sort.insertionSort ltE d0 0 n) w' := by
  have hi := Aside0.mk (ins121_ok hg h1 hn d0 w hS)
  clear hS
  go_enter Tryd.func101, Tryd.ntmps101
  go_wp2
  refine wp_loop_rounds 1 ?_
  rw [rounds_succ]
  go_wp2_with (go_at_call 121; refine hi.out.mono ?_; rintro e w2 ⟨rfl, hs⟩)
  (try simp only [Exit.inBlock, Exit.then]); refine bodyPost_ret (results_none rfl _ _ _) rfl ?_
  exact ⟨rfl, hs⟩
theorem bits96_ok (n : Nat) (hn : n ≤ 1000) (w : World) : Calls Tryd.prog 96 #[.int .u64 (n : Int)] w fun e w' => e = .returned (.int .i64 (Lib.bitLen n)) ∧ w' = w :=
  Any.bits_Len (LaysGg.n13.bits (P := Tryd.prog) (ρ := Tryd.laysGg6_ren) { Tryd.laysGg6 with }) (n : Int) w (by omega) (by omega)
theorem sort91_ok (hg : w0.heap.size ≤ g) (h1 : rb ≠ g) (hn : n ≤ 12) (d0 : Array S44) (w : World) (hS : Srs w0 g rb n d0 w) :
    Calls Tryd.prog 91 #[.iface 139 (.pointer (some ⟨rb, 0, none⟩))] w fun e w' => e = .returned (.tuple #[]) ∧ Srs w0 g rb n (Go.Sort.insertionSort ltE d0 0 n) w' := by
  have HL := Aside0.mk (len201_ok hS)
  have HP := Aside0.mk (pdq101_ok hg h1 hn d0 w hS)
  have HB := Aside0.mk (bits96_ok n (by omega) w)
  have hwn : IntKind.u64.wrap (n : Int) = (n : Int) := by simp [IntKind.wrap, IntKind.bits, IntKind.signed]; omega
  by_cases h2 : n ≤ 1
  · have he : Srs w0 g rb n (Go.Sort.insertionSort ltE d0 0 n) w := by unfold Go.Sort.insertionSort; rw [insOuter_stop _ _ _ _ _ (by omega)]; exact hS
    clear hS HP HB
    go_enter Tryd.func91, Tryd.ntmps91
    go_wp2_with (go_at_call 201; refine HL.out.mono ?_; rintro e w2 ⟨rfl, rfl⟩)
    (try simp only [Exit.inBlock, Exit.then]); refine bodyPost_ret (results_none rfl _ _ _) rfl ?_
    exact ⟨rfl, he⟩
  · clear hS
    go_enter Tryd.func91, Tryd.ntmps91
    go_wp2_with (first
      | (go_at_call 201; refine HL.out.mono ?_; rintro e w2 ⟨rfl, rfl⟩)
      | (go_at_call 96; refine HB.out.mono ?_; rintro e w2 ⟨rfl, rfl⟩)
      | (go_at_call 101; refine (HP.out _).mono ?_; rintro e w2 ⟨rfl, hs⟩))
    go_end0
    exact ⟨rfl, hs⟩
end
open Go.Proofs.YtlcoodjkolponaaDoor.PRG (C cmpC typV isEmpty_ok keep_frozen)
/-- The empty range joined with one that has values is that one. -/
theorem tryUnion0_ok (c d : C) (hc : ¬ 0 ≤ cmpC c d) (w : World) :
    Calls Tryd.prog 68 #[.agg #[.iface 126 (.agg #[]), .iface 126 (.agg #[]), typV], .agg #[.iface c.ty c.pay, .iface d.ty d.pay, typV]] w fun e w' => e = .returned (.tuple #[.agg #[.iface c.ty c.pay, .iface d.ty d.pay, typV], .bool true, .nilIface]) ∧ Below w.heap.size w w' := by
  have E1 : ∀ W : World, Calls Tryd.prog 64 #[.agg #[.iface C.aa.ty C.aa.pay, .iface C.aa.ty C.aa.pay, typV]] W fun e w' => e = .returned (.tuple #[.bool true, .nilIface]) ∧ Below W.heap.size W w' := fun W => (decide_eq_true (show (0 : Int) ≤ cmpC .aa .aa by decide)) ▸ isEmpty_ok .aa .aa W
  have E2 : ∀ W : World, Calls Tryd.prog 64 #[.agg #[.iface c.ty c.pay, .iface d.ty d.pay, typV]] W fun e w' => e = .returned (.tuple #[.bool false, .nilIface]) ∧ Below W.heap.size W w' := fun W => (decide_eq_false hc) ▸ isEmpty_ok c d W
  clear hc
  show Calls Tryd.prog 68 #[.agg #[.iface C.aa.ty C.aa.pay, .iface C.aa.ty C.aa.pay, typV], .agg #[.iface c.ty c.pay, .iface d.ty d.pay, typV]] w _
  generalize C.aa = a at *
  obtain ⟨b, hb0⟩ : ∃ b : C, b = a := ⟨a, rfl⟩
  rw [show (Value.agg #[.iface a.ty a.pay, .iface a.ty a.pay, typV]) = .agg #[.iface a.ty a.pay, .iface b.ty b.pay, typV] by rw [hb0]] at E1 ⊢
  clear hb0
  go_enter Tryd.func68, Tryd.ntmps68
  go_wp2_with (first | ((first | (with_reducible refine (E2 _).mono ?_) | (with_reducible refine (E1 _).mono ?_)); rintro e W1 ⟨rfl, hb⟩; have n0 : W1.cell? ⟨w.heap.size, 0, none⟩ = some (.iface a.ty a.pay) := (pw_cell_below hb (by first | assumption | (simp [go_sem]; done))); have n1 : W1.cell? ⟨w.heap.size, 1, none⟩ = some (.iface b.ty b.pay) := (pw_cell_below hb (by first | assumption | (simp [go_sem]; done))); have n2 : W1.cell? ⟨w.heap.size, 2, none⟩ = some (typV) := (pw_cell_below hb (by first | assumption | (simp [go_sem]; done))); have n3 : W1.cell? ⟨w.heap.size + 1, 0, none⟩ = some (.iface c.ty c.pay) := (pw_cell_below hb (by first | assumption | (simp [go_sem]; done))); have n4 : W1.cell? ⟨w.heap.size + 1, 1, none⟩ = some (.iface d.ty d.pay) := (pw_cell_below hb (by first | assumption | (simp [go_sem]; done))); have n5 : W1.cell? ⟨w.heap.size + 1, 2, none⟩ = some (typV) := (pw_cell_below hb (by first | assumption | (simp [go_sem]; done))); have n6 : W1.cell? ⟨w.heap.size + 1 + 1, 0, none⟩ = some (.nilIface) := (pw_cell_below hb (by first | assumption | (simp [go_sem]; done))); have n7 : W1.cell? ⟨w.heap.size + 1 + 1, 1, none⟩ = some (.nilIface) := (pw_cell_below hb (by first | assumption | (simp [go_sem]; done))); have n8 : W1.cell? ⟨w.heap.size + 1 + 1, 2, none⟩ = some (.nilIface) := (pw_cell_below hb (by first | assumption | (simp [go_sem]; done))); have m6 : W1.frozen? ⟨w.heap.size + 1 + 1, 0, none⟩ = false := (keep_frozen (v := .nilIface) hb (by first | assumption | (simp [go_sem]; done)) (by first | assumption | (simp [go_sem]; done))); have m7 : W1.frozen? ⟨w.heap.size + 1 + 1, 1, none⟩ = false := (keep_frozen (v := .nilIface) hb (by first | assumption | (simp [go_sem]; done)) (by first | assumption | (simp [go_sem]; done))); have m8 : W1.frozen? ⟨w.heap.size + 1 + 1, 2, none⟩ = false := (keep_frozen (v := .nilIface) hb (by first | assumption | (simp [go_sem]; done)) (by first | assumption | (simp [go_sem]; done))); have nB : Aside0 (Below w.heap.size w W1) := (Aside0.mk (below_step (by first | (with_reducible exact HB.out) | (repeat (first | (with_reducible exact HB.out) | (with_reducible exact Below.refl _ _) | (with_reducible apply below_alloc) | (with_reducible apply below_drew)))) hb)); (try clear c0); (try clear c1); (try clear c2); (try clear c3); (try clear c4); (try clear c5); (try clear c6); (try clear c7); (try clear c8); (try clear z6); (try clear z7); (try clear z8); (try clear HB); clear hb; have c0 := n0; clear n0; have c1 := n1; clear n1; have c2 := n2; clear n2; have c3 := n3; clear n3; have c4 := n4; clear n4; have c5 := n5; clear n5; have c6 := n6; clear n6; have c7 := n7; clear n7; have c8 := n8; clear n8; have z6 := m6; clear m6; have z7 := m7; clear m7; have z8 := m8; clear m8; have HB := nB; clear nB))
  exact bodyPost_ret (v := .tuple #[.agg #[.iface c.ty c.pay, .iface d.ty d.pay, typV], .bool true, .nilIface]) (by simp [results, Tryd.results68, go_sem, c6, c7, c8]) rfl ⟨rfl, by repeat (first | exact HB.out | (refine Below.setCell ?_ (by simp <;> omega) _))⟩
end Go.Proofs.YtlcoodjkolponaaDoor.PRR
