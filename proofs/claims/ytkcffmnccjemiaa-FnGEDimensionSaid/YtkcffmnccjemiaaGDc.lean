/-
  Contracts of geFlat and its lines: what is so where they answer true. No condition.
-/
import Derived.Test.YtkcffmnccjemiaaGDb
namespace Go.Proofs.Ytkcffmnccjemiaa.GD
open Go.RowKit Go.Proofs.YtkcffmnccjemiaaW.PrintWords Go.Proofs.YtkcffmnccjemiaaW.PrintLast Go.Proofs.YtkcffmnccjemiaaW.PrintMore
set_option linter.unusedVariables false
set_option linter.unusedSimpArgs false
set_option maxRecDepth 100000
set_option maxHeartbeats 1000000

/-- At most five lines of at most twelve points. -/
def Small (l : List (List (Nat × Nat))) : Prop := l.length ≤ 5 ∧ ∀ x ∈ l, x.length ≤ 12
/-- A truth value; where it is true, p. -/
def Tells (e : Ending) (p : Prop) : Prop := ∃ r, e = .returned (.bool r) ∧ (r = true → p)
theorem lines_ok (A : Option Addr) (c : Nat) (b : Bool) (l : List (List (Nat × Nat))) (w : World) (hC : kPts.C w A l.length l) :
    Calls Try.prog 13 #[.slice A l.length c, .bool b] w fun e w' => Tells e (Small l) ∧ Below w.heap.size w w' := by
  have hmax : l.length ≤ 9223372036854775807 := hC.2.1
  have HC := Aside0.mk (fun W (h : Below w.heap.size w W) => Kd.C_below hC h)
  clear hC
  go_enter Try.func13, Try.ntmps13
  go_wp2
  go_loopw [9] (fun t9 wr => ∃ k : Nat, t9 = .int .i64 (k : Int) ∧ k ≤ l.length ∧ Aside0 (∀ x ∈ l.take k, x.length ≤ 12) ∧ Aside0 (Below w.heap.size w wr)) (fun t9 _ => l.length - (intOf t9).toNat)
  case atStart => exact ⟨0, rfl, Nat.zero_le _, ⟨by simp⟩, ⟨Below.refl _ _⟩⟩
  case round =>
    obtain ⟨k, rfl, hk, HK, HB⟩ := hrel
    rcases Nat.lt_or_ge k l.length with hlt | hge
    · obtain ⟨ad, x, A', c', rfl, hx, hcell, hle, hC⟩ := at_row kQ 65 (HC.out wr HB.out) k hlt
      have HG := Aside0.mk (ring_ok A' c' x wr hC)
      have HT : Aside0 (x.length ≤ 12 → ∀ y ∈ l.take (k + 1), y.length ≤ 12) := ⟨fun h12 y hy => by
        rw [List.take_succ_eq_append_getElem hlt] at hy
        rw [List.getElem?_eq_getElem hlt] at hx
        rcases List.mem_append.1 hy with hy | hy
        · exact HK.out y hy
        · rw [List.mem_singleton.1 hy, Option.some.inj hx]; exact h12⟩
      clear hC hx hle
      generalize x.length = m at *
      by_cases h2 : (m : Int) < 2
      · go_wp2
        go_ret
        exact ⟨⟨_, rfl, fun h => by cases h⟩, HB.out⟩
      by_cases h12 : (12 : Int) < (m : Int)
      · go_wp2
        go_ret
        exact ⟨⟨_, rfl, fun h => by cases h⟩, HB.out⟩
      have HT2 := Aside0.mk (HT.out (by omega))
      cases b
      · go_wp2
        go_roundw
        case rel => exact ⟨k + 1, by go_num, by omega, HT2, HB⟩
        case measure => simp [intOf]; omega
      · go_wp2_with fail
        refine HG.out.mono ?_
        rintro e w2 ⟨⟨r, rfl⟩, hb⟩
        have HB2 := Aside0.mk (below_step HB.out hb)
        clear hb HB HG
        cases r
        · go_wp2_with fail
          go_ret
          exact ⟨⟨_, rfl, fun h => by cases h⟩, HB2.out⟩
        · go_wp2_with fail
          go_roundw
          case rel => exact ⟨k + 1, by go_num, by omega, HT2, HB2⟩
          case measure => simp [intOf]; omega
    · obtain rfl : k = l.length := by omega
      rw [List.take_length] at HK
      by_cases h1 : (1 : Int) ≤ (l.length : Int)
      · by_cases h5 : (l.length : Int) ≤ 5
        · have HS := Aside0.mk (show Small l from ⟨by omega, HK.out⟩)
          go_wp2
          go_ret
          exact ⟨⟨_, rfl, fun _ => HS.out⟩, HB.out⟩
        · go_wp2
          go_ret
          exact ⟨⟨_, rfl, fun h => by cases h⟩, HB.out⟩
      · go_wp2
        go_ret
        exact ⟨⟨_, rfl, fun h => by cases h⟩, HB.out⟩
/-- What a flat geometry is. -/
def Flat (k : Int) (l2 : List (Nat × Nat)) (l3 : List (List (Nat × Nat))) (l4 : List (List (List (Nat × Nat)))) : Prop :=
  (k = 1 ∧ l2.length = 1) ∨ (k = 2 ∧ l2.length ≤ 12) ∨ (k = 4 ∧ l2.length ≤ 12) ∨ ((k = 3 ∨ k = 5) ∧ Small l3) ∨ (k = 6 ∧ l4.length ≤ 5 ∧ ∀ y ∈ l4, Small y)
theorem flat1_ok (s : Int) (A2 A3 A4 A5 : Option Addr) (c2 c3 c4 n5 c5 : Nat) (l2 : List (Nat × Nat)) (l3 : List (List (Nat × Nat))) (l4 : List (List (List (Nat × Nat)))) (w : World) (hL : Lays w A2 A3 A4 l2 l3 l4) :
    Calls Try.prog 10 #[gv 1 s A2 A3 A4 A5 l2.length c2 l3.length c3 l4.length c4 n5 c5] w fun e w' => Tells e (Flat 1 l2 l3 l4) ∧ Below w.heap.size w w' := by
  have m2 : l2.length ≤ 9223372036854775807 := hL.1.2.1
  have m3 : l3.length ≤ 9223372036854775807 := hL.2.1.2.1
  have m4 : l4.length ≤ 9223372036854775807 := hL.2.2.2.1
  have hB := below_alloc (Below.refl w.heap.size w) (go 1 s A2 A3 A4 A5 l2.length c2 l3.length c3 l4.length c4 n5 c5)
  have HB := Aside0.mk hB
  have HL := Aside0.mk (fun W (h : Below w.heap.size w W) => hL.below h)
  have H3 := Aside0.mk (fun b => lines_ok A3 c3 b l3 _ (hL.below hB).2.1)
  have HN := Aside0.mk (heap_alloc_new w (go 1 s A2 A3 A4 A5 l2.length c2 l3.length c3 l4.length c4 n5 c5))
  have F1 := Aside0.mk (fun (h : (1 : Int) = 1) (h2 : l2.length = 1) => (show Flat 1 l2 l3 l4 from .inl ⟨h, h2⟩))
  have F2 := Aside0.mk (fun (h : (1 : Int) = 2) (h2 : l2.length ≤ 12) => (show Flat 1 l2 l3 l4 from .inr (.inl ⟨h, h2⟩)))
  have F4 := Aside0.mk (fun (h : (1 : Int) = 4) (h2 : l2.length ≤ 12) => (show Flat 1 l2 l3 l4 from .inr (.inr (.inl ⟨h, h2⟩))))
  have F3 := Aside0.mk (fun (h : (1 : Int) = 3 ∨ (1 : Int) = 5) (h2 : Small l3) => (show Flat 1 l2 l3 l4 from .inr (.inr (.inr (.inl ⟨h, h2⟩)))))
  have F6 := Aside0.mk (fun (h : (1 : Int) = 6) (h2 : l4.length ≤ 5) (h3 : ∀ y ∈ l4, Small y) => (show Flat 1 l2 l3 l4 from .inr (.inr (.inr (.inr ⟨h, h2, h3⟩)))))
  generalize Flat 1 l2 l3 l4 = FF at *
  clear hL hB
  go_enter Try.func10, Try.ntmps10
  by_cases hn : n5 = 0
  case neg =>
    go_wp2
    go_ret
    exact ⟨⟨_, rfl, fun h => by cases h⟩, below_alloc (Below.refl _ _) _⟩
  subst hn
  by_cases h1 : l2.length = 1
  case neg =>
    go_wp2
    go_ret
    exact ⟨⟨_, rfl, fun h => by cases h⟩, below_alloc (Below.refl _ _) _⟩
  go_wp2
  go_ret
  exact ⟨⟨_, rfl, fun _ => F1.out (by first | rfl | trivial) h1⟩, below_alloc (Below.refl _ _) _⟩
theorem flat2_ok (s : Int) (A2 A3 A4 A5 : Option Addr) (c2 c3 c4 n5 c5 : Nat) (l2 : List (Nat × Nat)) (l3 : List (List (Nat × Nat))) (l4 : List (List (List (Nat × Nat)))) (w : World) (hL : Lays w A2 A3 A4 l2 l3 l4) :
    Calls Try.prog 10 #[gv 2 s A2 A3 A4 A5 l2.length c2 l3.length c3 l4.length c4 n5 c5] w fun e w' => Tells e (Flat 2 l2 l3 l4) ∧ Below w.heap.size w w' := by
  have m2 : l2.length ≤ 9223372036854775807 := hL.1.2.1
  have m3 : l3.length ≤ 9223372036854775807 := hL.2.1.2.1
  have m4 : l4.length ≤ 9223372036854775807 := hL.2.2.2.1
  have hB := below_alloc (Below.refl w.heap.size w) (go 2 s A2 A3 A4 A5 l2.length c2 l3.length c3 l4.length c4 n5 c5)
  have HB := Aside0.mk hB
  have HL := Aside0.mk (fun W (h : Below w.heap.size w W) => hL.below h)
  have H3 := Aside0.mk (fun b => lines_ok A3 c3 b l3 _ (hL.below hB).2.1)
  have HN := Aside0.mk (heap_alloc_new w (go 2 s A2 A3 A4 A5 l2.length c2 l3.length c3 l4.length c4 n5 c5))
  have F1 := Aside0.mk (fun (h : (2 : Int) = 1) (h2 : l2.length = 1) => (show Flat 2 l2 l3 l4 from .inl ⟨h, h2⟩))
  have F2 := Aside0.mk (fun (h : (2 : Int) = 2) (h2 : l2.length ≤ 12) => (show Flat 2 l2 l3 l4 from .inr (.inl ⟨h, h2⟩)))
  have F4 := Aside0.mk (fun (h : (2 : Int) = 4) (h2 : l2.length ≤ 12) => (show Flat 2 l2 l3 l4 from .inr (.inr (.inl ⟨h, h2⟩))))
  have F3 := Aside0.mk (fun (h : (2 : Int) = 3 ∨ (2 : Int) = 5) (h2 : Small l3) => (show Flat 2 l2 l3 l4 from .inr (.inr (.inr (.inl ⟨h, h2⟩)))))
  have F6 := Aside0.mk (fun (h : (2 : Int) = 6) (h2 : l4.length ≤ 5) (h3 : ∀ y ∈ l4, Small y) => (show Flat 2 l2 l3 l4 from .inr (.inr (.inr (.inr ⟨h, h2, h3⟩)))))
  generalize Flat 2 l2 l3 l4 = FF at *
  clear hL hB
  go_enter Try.func10, Try.ntmps10
  by_cases hn : n5 = 0
  case neg =>
    go_wp2
    go_ret
    exact ⟨⟨_, rfl, fun h => by cases h⟩, below_alloc (Below.refl _ _) _⟩
  subst hn
  by_cases h1 : 2 ≤ l2.length
  case neg =>
    go_wp2
    go_ret
    exact ⟨⟨_, rfl, fun h => by cases h⟩, below_alloc (Below.refl _ _) _⟩
  by_cases h2 : l2.length ≤ 12
  case neg =>
    go_wp2
    go_ret
    exact ⟨⟨_, rfl, fun h => by cases h⟩, below_alloc (Below.refl _ _) _⟩
  go_wp2
  go_ret
  exact ⟨⟨_, rfl, fun _ => F2.out (by first | rfl | trivial) h2⟩, below_alloc (Below.refl _ _) _⟩
theorem flat4_ok (s : Int) (A2 A3 A4 A5 : Option Addr) (c2 c3 c4 n5 c5 : Nat) (l2 : List (Nat × Nat)) (l3 : List (List (Nat × Nat))) (l4 : List (List (List (Nat × Nat)))) (w : World) (hL : Lays w A2 A3 A4 l2 l3 l4) :
    Calls Try.prog 10 #[gv 4 s A2 A3 A4 A5 l2.length c2 l3.length c3 l4.length c4 n5 c5] w fun e w' => Tells e (Flat 4 l2 l3 l4) ∧ Below w.heap.size w w' := by
  have m2 : l2.length ≤ 9223372036854775807 := hL.1.2.1
  have m3 : l3.length ≤ 9223372036854775807 := hL.2.1.2.1
  have m4 : l4.length ≤ 9223372036854775807 := hL.2.2.2.1
  have hB := below_alloc (Below.refl w.heap.size w) (go 4 s A2 A3 A4 A5 l2.length c2 l3.length c3 l4.length c4 n5 c5)
  have HB := Aside0.mk hB
  have HL := Aside0.mk (fun W (h : Below w.heap.size w W) => hL.below h)
  have H3 := Aside0.mk (fun b => lines_ok A3 c3 b l3 _ (hL.below hB).2.1)
  have HN := Aside0.mk (heap_alloc_new w (go 4 s A2 A3 A4 A5 l2.length c2 l3.length c3 l4.length c4 n5 c5))
  have F1 := Aside0.mk (fun (h : (4 : Int) = 1) (h2 : l2.length = 1) => (show Flat 4 l2 l3 l4 from .inl ⟨h, h2⟩))
  have F2 := Aside0.mk (fun (h : (4 : Int) = 2) (h2 : l2.length ≤ 12) => (show Flat 4 l2 l3 l4 from .inr (.inl ⟨h, h2⟩)))
  have F4 := Aside0.mk (fun (h : (4 : Int) = 4) (h2 : l2.length ≤ 12) => (show Flat 4 l2 l3 l4 from .inr (.inr (.inl ⟨h, h2⟩))))
  have F3 := Aside0.mk (fun (h : (4 : Int) = 3 ∨ (4 : Int) = 5) (h2 : Small l3) => (show Flat 4 l2 l3 l4 from .inr (.inr (.inr (.inl ⟨h, h2⟩)))))
  have F6 := Aside0.mk (fun (h : (4 : Int) = 6) (h2 : l4.length ≤ 5) (h3 : ∀ y ∈ l4, Small y) => (show Flat 4 l2 l3 l4 from .inr (.inr (.inr (.inr ⟨h, h2, h3⟩)))))
  generalize Flat 4 l2 l3 l4 = FF at *
  clear hL hB
  go_enter Try.func10, Try.ntmps10
  by_cases hn : n5 = 0
  case neg =>
    go_wp2
    go_ret
    exact ⟨⟨_, rfl, fun h => by cases h⟩, below_alloc (Below.refl _ _) _⟩
  subst hn
  by_cases h1 : 1 ≤ l2.length
  case neg =>
    go_wp2
    go_ret
    exact ⟨⟨_, rfl, fun h => by cases h⟩, below_alloc (Below.refl _ _) _⟩
  by_cases h2 : l2.length ≤ 12
  case neg =>
    go_wp2
    go_ret
    exact ⟨⟨_, rfl, fun h => by cases h⟩, below_alloc (Below.refl _ _) _⟩
  go_wp2
  go_ret
  exact ⟨⟨_, rfl, fun _ => F4.out (by first | rfl | trivial) h2⟩, below_alloc (Below.refl _ _) _⟩
theorem flat3_ok (s : Int) (A2 A3 A4 A5 : Option Addr) (c2 c3 c4 n5 c5 : Nat) (l2 : List (Nat × Nat)) (l3 : List (List (Nat × Nat))) (l4 : List (List (List (Nat × Nat)))) (w : World) (hL : Lays w A2 A3 A4 l2 l3 l4) :
    Calls Try.prog 10 #[gv 3 s A2 A3 A4 A5 l2.length c2 l3.length c3 l4.length c4 n5 c5] w fun e w' => Tells e (Flat 3 l2 l3 l4) ∧ Below w.heap.size w w' := by
  have m2 : l2.length ≤ 9223372036854775807 := hL.1.2.1
  have m3 : l3.length ≤ 9223372036854775807 := hL.2.1.2.1
  have m4 : l4.length ≤ 9223372036854775807 := hL.2.2.2.1
  have hB := below_alloc (Below.refl w.heap.size w) (go 3 s A2 A3 A4 A5 l2.length c2 l3.length c3 l4.length c4 n5 c5)
  have HB := Aside0.mk hB
  have HL := Aside0.mk (fun W (h : Below w.heap.size w W) => hL.below h)
  have H3 := Aside0.mk (fun b => lines_ok A3 c3 b l3 _ (hL.below hB).2.1)
  have HN := Aside0.mk (heap_alloc_new w (go 3 s A2 A3 A4 A5 l2.length c2 l3.length c3 l4.length c4 n5 c5))
  have F1 := Aside0.mk (fun (h : (3 : Int) = 1) (h2 : l2.length = 1) => (show Flat 3 l2 l3 l4 from .inl ⟨h, h2⟩))
  have F2 := Aside0.mk (fun (h : (3 : Int) = 2) (h2 : l2.length ≤ 12) => (show Flat 3 l2 l3 l4 from .inr (.inl ⟨h, h2⟩)))
  have F4 := Aside0.mk (fun (h : (3 : Int) = 4) (h2 : l2.length ≤ 12) => (show Flat 3 l2 l3 l4 from .inr (.inr (.inl ⟨h, h2⟩))))
  have F3 := Aside0.mk (fun (h : (3 : Int) = 3 ∨ (3 : Int) = 5) (h2 : Small l3) => (show Flat 3 l2 l3 l4 from .inr (.inr (.inr (.inl ⟨h, h2⟩)))))
  have F6 := Aside0.mk (fun (h : (3 : Int) = 6) (h2 : l4.length ≤ 5) (h3 : ∀ y ∈ l4, Small y) => (show Flat 3 l2 l3 l4 from .inr (.inr (.inr (.inr ⟨h, h2, h3⟩)))))
  generalize Flat 3 l2 l3 l4 = FF at *
  clear hL hB
  go_enter Try.func10, Try.ntmps10
  by_cases hn : n5 = 0
  case neg =>
    go_wp2
    go_ret
    exact ⟨⟨_, rfl, fun h => by cases h⟩, below_alloc (Below.refl _ _) _⟩
  subst hn
  obtain ⟨z, hzz⟩ : ∃ z, wrap64 ((l2.length : Int) + (l4.length : Int)) = z := ⟨_, rfl⟩
  by_cases hz : z = 0
  case neg =>
    go_wp2
    go_ret
    exact ⟨⟨_, rfl, fun h => by cases h⟩, below_alloc (Below.refl _ _) _⟩
  go_wp2_with fail
  refine (H3.out true).mono ?_
  rintro e w2 ⟨⟨r, rfl, hr⟩, hb⟩
  have HB2 := Aside0.mk (below_step HB.out hb)
  have HR := Aside0.mk hr
  clear hb hr
  go_wp2_with fail
  go_ret
  exact ⟨⟨_, rfl, fun h => F3.out (by first | exact .inl rfl | simp) (HR.out h)⟩, HB2.out⟩
theorem flat5_ok (s : Int) (A2 A3 A4 A5 : Option Addr) (c2 c3 c4 n5 c5 : Nat) (l2 : List (Nat × Nat)) (l3 : List (List (Nat × Nat))) (l4 : List (List (List (Nat × Nat)))) (w : World) (hL : Lays w A2 A3 A4 l2 l3 l4) :
    Calls Try.prog 10 #[gv 5 s A2 A3 A4 A5 l2.length c2 l3.length c3 l4.length c4 n5 c5] w fun e w' => Tells e (Flat 5 l2 l3 l4) ∧ Below w.heap.size w w' := by
  have m2 : l2.length ≤ 9223372036854775807 := hL.1.2.1
  have m3 : l3.length ≤ 9223372036854775807 := hL.2.1.2.1
  have m4 : l4.length ≤ 9223372036854775807 := hL.2.2.2.1
  have hB := below_alloc (Below.refl w.heap.size w) (go 5 s A2 A3 A4 A5 l2.length c2 l3.length c3 l4.length c4 n5 c5)
  have HB := Aside0.mk hB
  have HL := Aside0.mk (fun W (h : Below w.heap.size w W) => hL.below h)
  have H3 := Aside0.mk (fun b => lines_ok A3 c3 b l3 _ (hL.below hB).2.1)
  have HN := Aside0.mk (heap_alloc_new w (go 5 s A2 A3 A4 A5 l2.length c2 l3.length c3 l4.length c4 n5 c5))
  have F1 := Aside0.mk (fun (h : (5 : Int) = 1) (h2 : l2.length = 1) => (show Flat 5 l2 l3 l4 from .inl ⟨h, h2⟩))
  have F2 := Aside0.mk (fun (h : (5 : Int) = 2) (h2 : l2.length ≤ 12) => (show Flat 5 l2 l3 l4 from .inr (.inl ⟨h, h2⟩)))
  have F4 := Aside0.mk (fun (h : (5 : Int) = 4) (h2 : l2.length ≤ 12) => (show Flat 5 l2 l3 l4 from .inr (.inr (.inl ⟨h, h2⟩))))
  have F3 := Aside0.mk (fun (h : (5 : Int) = 3 ∨ (5 : Int) = 5) (h2 : Small l3) => (show Flat 5 l2 l3 l4 from .inr (.inr (.inr (.inl ⟨h, h2⟩)))))
  have F6 := Aside0.mk (fun (h : (5 : Int) = 6) (h2 : l4.length ≤ 5) (h3 : ∀ y ∈ l4, Small y) => (show Flat 5 l2 l3 l4 from .inr (.inr (.inr (.inr ⟨h, h2, h3⟩)))))
  generalize Flat 5 l2 l3 l4 = FF at *
  clear hL hB
  go_enter Try.func10, Try.ntmps10
  by_cases hn : n5 = 0
  case neg =>
    go_wp2
    go_ret
    exact ⟨⟨_, rfl, fun h => by cases h⟩, below_alloc (Below.refl _ _) _⟩
  subst hn
  obtain ⟨z, hzz⟩ : ∃ z, wrap64 ((l2.length : Int) + (l4.length : Int)) = z := ⟨_, rfl⟩
  by_cases hz : z = 0
  case neg =>
    go_wp2
    go_ret
    exact ⟨⟨_, rfl, fun h => by cases h⟩, below_alloc (Below.refl _ _) _⟩
  go_wp2_with fail
  refine (H3.out false).mono ?_
  rintro e w2 ⟨⟨r, rfl, hr⟩, hb⟩
  have HB2 := Aside0.mk (below_step HB.out hb)
  have HR := Aside0.mk hr
  clear hb hr
  go_wp2_with fail
  go_ret
  exact ⟨⟨_, rfl, fun h => F3.out (by first | exact .inr rfl | simp) (HR.out h)⟩, HB2.out⟩
theorem flat6_ok (s : Int) (A2 A3 A4 A5 : Option Addr) (c2 c3 c4 n5 c5 : Nat) (l2 : List (Nat × Nat)) (l3 : List (List (Nat × Nat))) (l4 : List (List (List (Nat × Nat)))) (w : World) (hL : Lays w A2 A3 A4 l2 l3 l4) :
    Calls Try.prog 10 #[gv 6 s A2 A3 A4 A5 l2.length c2 l3.length c3 l4.length c4 n5 c5] w fun e w' => Tells e (Flat 6 l2 l3 l4) ∧ Below w.heap.size w w' := by
  have m2 : l2.length ≤ 9223372036854775807 := hL.1.2.1
  have m3 : l3.length ≤ 9223372036854775807 := hL.2.1.2.1
  have m4 : l4.length ≤ 9223372036854775807 := hL.2.2.2.1
  have hB := below_alloc (Below.refl w.heap.size w) (go 6 s A2 A3 A4 A5 l2.length c2 l3.length c3 l4.length c4 n5 c5)
  have HB := Aside0.mk hB
  have HL := Aside0.mk (fun W (h : Below w.heap.size w W) => hL.below h)
  have H3 := Aside0.mk (fun b => lines_ok A3 c3 b l3 _ (hL.below hB).2.1)
  have HN := Aside0.mk (heap_alloc_new w (go 6 s A2 A3 A4 A5 l2.length c2 l3.length c3 l4.length c4 n5 c5))
  have F1 := Aside0.mk (fun (h : (6 : Int) = 1) (h2 : l2.length = 1) => (show Flat 6 l2 l3 l4 from .inl ⟨h, h2⟩))
  have F2 := Aside0.mk (fun (h : (6 : Int) = 2) (h2 : l2.length ≤ 12) => (show Flat 6 l2 l3 l4 from .inr (.inl ⟨h, h2⟩)))
  have F4 := Aside0.mk (fun (h : (6 : Int) = 4) (h2 : l2.length ≤ 12) => (show Flat 6 l2 l3 l4 from .inr (.inr (.inl ⟨h, h2⟩))))
  have F3 := Aside0.mk (fun (h : (6 : Int) = 3 ∨ (6 : Int) = 5) (h2 : Small l3) => (show Flat 6 l2 l3 l4 from .inr (.inr (.inr (.inl ⟨h, h2⟩)))))
  have F6 := Aside0.mk (fun (h : (6 : Int) = 6) (h2 : l4.length ≤ 5) (h3 : ∀ y ∈ l4, Small y) => (show Flat 6 l2 l3 l4 from .inr (.inr (.inr (.inr ⟨h, h2, h3⟩)))))
  generalize Flat 6 l2 l3 l4 = FF at *
  clear hL hB
  go_enter Try.func10, Try.ntmps10
  go_wp2_with fail
  go_loopw [110] (fun t110 wr => ∃ j : Nat, t110 = .int .i64 (j : Int) ∧ j ≤ l4.length ∧ Aside0 (∀ y ∈ l4.take j, Small y) ∧ Aside0 (Below w.heap.size w wr) ∧ wr.heap[w.heap.size]? = some (go 6 s A2 A3 A4 A5 l2.length c2 l3.length c3 l4.length c4 n5 c5)) (fun t110 _ => l4.length - (intOf t110).toNat)
  case atStart => exact ⟨0, rfl, Nat.zero_le _, ⟨by simp⟩, HB, HN.out⟩
  case round =>
    obtain ⟨j, rfl, hj, HK, HBr, hN⟩ := hrel
    have HN2 := Aside0.mk hN
    obtain ⟨x0, x1, x2, x3, x4, x5⟩ := cells6 hN
    clear hN
    rcases Nat.lt_or_ge j l4.length with hlt | hge
    · obtain ⟨ad, x, A', c', rfl, hx, hcell, hle, hC⟩ := at_row kPts 23 (HL.out wr HBr.out).2.2 j hlt
      have HG := Aside0.mk (lines_ok A' c' true x wr hC)
      have HT : Aside0 (Small x → ∀ y ∈ l4.take (j + 1), Small y) := ⟨fun h12 y hy => by
        rw [List.take_succ_eq_append_getElem hlt] at hy
        rw [List.getElem?_eq_getElem hlt] at hx
        rcases List.mem_append.1 hy with hy | hy
        · exact HK.out y hy
        · rw [List.mem_singleton.1 hy, Option.some.inj hx]; exact h12⟩
      clear hC hx hle
      generalize x.length = m at *
      go_wp2_with fail
      refine HG.out.mono ?_
      rintro e w2 ⟨⟨r, rfl, hr⟩, hb⟩
      have HB2 := Aside0.mk (below_step HBr.out hb)
      have hN2 := (hb.block _ (blk_lt HN2.out)).trans HN2.out
      have HR := Aside0.mk hr
      clear hb HBr HG hr x0 x1 x2 x3 x4 x5
      cases r
      · go_wp2_with fail
        go_ret
        exact ⟨⟨_, rfl, fun h => by cases h⟩, HB2.out⟩
      · have HT2 := Aside0.mk (HT.out (HR.out rfl))
        go_wp2_with fail
        go_roundw
        case rel => exact ⟨j + 1, by go_num, by omega, HT2, HB2, hN2⟩
        case measure => simp [intOf]; omega
    · obtain rfl : j = l4.length := by omega
      rw [List.take_length] at HK
      by_cases hn : n5 = 0
      case neg =>
        go_wp2
        go_ret
        exact ⟨⟨_, rfl, fun h => by cases h⟩, HBr.out⟩
      obtain ⟨z, hzz⟩ : ∃ z, wrap64 ((l2.length : Int) + (l3.length : Int)) = z := ⟨_, rfl⟩
      by_cases hz : z = 0
      case neg =>
        go_wp2
        go_ret
        exact ⟨⟨_, rfl, fun h => by cases h⟩, HBr.out⟩
      by_cases h1 : 1 ≤ l4.length
      case neg =>
        go_wp2
        go_ret
        exact ⟨⟨_, rfl, fun h => by cases h⟩, HBr.out⟩
      go_wp2
      go_ret
      exact ⟨⟨_, rfl, fun h => F6.out (by first | rfl | trivial) (by have := of_decide_eq_true h; omega) HK.out⟩, HBr.out⟩
theorem flat_ok (k s : Int) (A2 A3 A4 A5 : Option Addr) (c2 c3 c4 n5 c5 : Nat) (l2 : List (Nat × Nat)) (l3 : List (List (Nat × Nat))) (l4 : List (List (List (Nat × Nat)))) (w : World) (hL : Lays w A2 A3 A4 l2 l3 l4) :
    Calls Try.prog 10 #[gv k s A2 A3 A4 A5 l2.length c2 l3.length c3 l4.length c4 n5 c5] w fun e w' => Tells e (Flat k l2 l3 l4) ∧ Below w.heap.size w w' := by
  by_cases hk1 : k = 1
  · subst hk1; exact flat1_ok s A2 A3 A4 A5 c2 c3 c4 n5 c5 l2 l3 l4 w hL
  by_cases hk2 : k = 2
  · subst hk2; exact flat2_ok s A2 A3 A4 A5 c2 c3 c4 n5 c5 l2 l3 l4 w hL
  by_cases hk4 : k = 4
  · subst hk4; exact flat4_ok s A2 A3 A4 A5 c2 c3 c4 n5 c5 l2 l3 l4 w hL
  by_cases hk3 : k = 3
  · subst hk3; exact flat3_ok s A2 A3 A4 A5 c2 c3 c4 n5 c5 l2 l3 l4 w hL
  by_cases hk5 : k = 5
  · subst hk5; exact flat5_ok s A2 A3 A4 A5 c2 c3 c4 n5 c5 l2 l3 l4 w hL
  by_cases hk6 : k = 6
  · subst hk6; exact flat6_ok s A2 A3 A4 A5 c2 c3 c4 n5 c5 l2 l3 l4 w hL
  go_enter Try.func10, Try.ntmps10
  go_wp2
  go_ret
  exact ⟨⟨_, rfl, fun h => by cases h⟩, below_alloc (Below.refl _ _) _⟩
end Go.Proofs.Ytkcffmnccjemiaa.GD
