/-
  sort.Slice at a slice of at most 12 elements of one cell, by a `less' that may lay new blocks (the library's contract asks for one that lays none): the library's own insertion sort, walked. Condition: what `less' and `swap' do.
-/
import Derived.Test.YtlcoodjkolponaaDoorPRR0
import Derived.Shelf.GgSortFunc.Small
import Derived.Test.YtlcoodjkolponaaDoorShelfG
import Derived.Sort.WalkA
namespace Go.Proofs.YtlcoodjkolponaaDoor.PRR
open Go.Shelf Go.RowKit Go.Lib Go.Proofs.YtlcoodjkolponaaDoorW.PrintWords Go.Proofs.YtlcoodjkolponaaDoorW.PrintLast Go.Proofs.YtlcoodjkolponaaDoorW.PrintMore
open Go.Sort (swp insInner insOuter swp_get swp_size)
set_option linter.unusedVariables false
set_option linter.unusedSimpArgs false
set_option maxRecDepth 100000
set_option maxHeartbeats 4000000

/-- What `less' and `swap' do, S being what holds of the elements and the world. -/
structure Sorts {α : Type} [Inhabited α] (lt : α → α → Bool) (S : Array α → World → Prop) (g sf : Nat) (lb sb : Array Value) (n g0 : Nat) : Prop where
  eg : ∀ args w, (callFunc g args).run Tryd.prog w = .ok (.enter g args) w
  less : ∀ d W i j, S d W → i < n → j < n → Calls Tryd.prog g (#[.int .i64 (i : Int), .int .i64 (j : Int)] ++ lb) W fun e w' => e = .returned (.bool (lt d[i]! d[j]!)) ∧ Below W.heap.size W w'
  step : ∀ d W W', S d W → Below W.heap.size W W' → S d W'
  swap : ∀ d W i j, S d W → i < n → j < n → i ≠ j → ∃ W', (callFunc sf (#[.int .i64 (i : Int), .int .i64 (j : Int)] ++ sb)).run Tryd.prog W = .ok (.value (.tuple #[])) W' ∧ S (swp d i j) W' ∧ ∀ k, k ≠ g0 → W'.heap[k]? = W.heap[k]?
  size : ∀ d W, S d W → g0 < W.heap.size
theorem ins_ok {α : Type} [Inhabited α] {lt : α → α → Bool} {S : Array α → World → Prop} {g sf : Nat} {lb sb : Array Value} {n g0 : Nat} (X : Sorts lt S g sf lb sb n g0) (d0 : Array α) (w : World) (hS : S d0 w) (hn : n ≤ 12) :
    Calls Tryd.prog 113 #[.agg #[.func (.func g) #[] lb, .func (.func sf) #[] sb], .int .i64 0, .int .i64 (n : Int)] w fun e w' => e = .returned (.tuple #[]) ∧ S (Go.Sort.insertionSort lt d0 0 n) w' := by
  have hg := X.size _ _ hS
  have hS1 := Aside0.mk (X.step _ _ _ hS (below_alloc (Below.refl w.heap.size w) (.cells #[.func (.func g) #[] lb, .func (.func sf) #[] sb] 155)))
  have hD1 := Aside0.mk (blk_new w (.cells #[.func (.func g) #[] lb, .func (.func sf) #[] sb] 155))
  clear hS
  go_enter Tryd.func113, Tryd.ntmps113
  go_wp2
  generalize w.alloc (.cells #[.func (.func g) #[] lb, .func (.func sf) #[] sb] 155) = w1 at *
  go_loopw [6] (fun vi wr => ∃ (i : Nat) (dk : Array α), vi = .int .i64 (i : Int) ∧ 0 < i ∧ i ≤ n + 1 ∧ Aside0 (S dk wr) ∧ Aside0 (wr.heap[w.heap.size]? = some (.cells #[.func (.func g) #[] lb, .func (.func sf) #[] sb] 155 (0, 0))) ∧ Aside0 (insOuter lt 0 n i dk = insOuter lt 0 n (0 + 1) d0)) (fun vi _ => n + 1 - (intOf vi).toNat)
  case atStart => exact ⟨1, d0, by go_num, by omega, by omega, hS1, hD1, ⟨rfl⟩⟩
  case round =>
    obtain ⟨i, dk, rfl, hi0, hin, HS, HD, HO⟩ := hrel
    clear hS1 hD1
    go_wp2
    · -- i < n: the inner loop
      go_loopw [7] (fun vj wr2 => ∃ (j : Nat) (dj : Array α), vj = .int .i64 (j : Int) ∧ j ≤ i ∧ Aside0 (S dj wr2) ∧ Aside0 (wr2.heap[w.heap.size]? = some (.cells #[.func (.func g) #[] lb, .func (.func sf) #[] sb] 155 (0, 0))) ∧ Aside0 (insInner lt 0 j dj = insInner lt 0 i dk)) (fun vj _ => (intOf vj).toNat)
      case atStart => exact ⟨i, dk, rfl, Nat.le_refl _, HS, HD, ⟨rfl⟩⟩
      case round =>
        obtain ⟨j, dj, rfl, hji, HS2, HD2, HI⟩ := hrel
        have hlt : i < n := by omega
        have c0 : wr.cell? ⟨w.heap.size, 0, none⟩ = some (.func (.func g) #[] lb) := by rw [blk_cell HD2.out]; rfl
        have OUT := Aside0.mk (show (j ≤ 0 ∨ lt dj[j]! dj[j - 1]! = false) → insOuter lt 0 n (i + 1) dj = insOuter lt 0 n (0 + 1) d0 from fun h => by rw [← HO.out, insOuter_go _ _ _ _ _ hlt, ← HI.out, insInner_stop _ _ _ _ h])
        by_cases hj : 0 < j
        · have hl := X.less dj wr j (j - 1) HS2.out (by omega) (by omega)
          rw [show (((j - 1 : Nat) : Int)) = (j : Int) - 1 by omega] at hl
          cases hlv : lt dj[j]! dj[j - 1]! with
          | true =>
            rw [hlv] at hl
            go_wp2_with (rw [X.eg]; refine hl.mono ?_; rintro e w2 ⟨rfl, hb⟩; have HS3 := Aside0.mk (X.step _ _ _ HS2.out hb); have HD3 := Aside0.mk (blk_below HD2.out hb); have c1 : w2.cell? ⟨w.heap.size, 1, none⟩ = some (.func (.func sf) #[] sb) := (by rw [blk_cell HD3.out]; rfl))
            obtain ⟨w3, hr, hs3, hk3⟩ := X.swap dj w2 j (j - 1) HS3.out (by omega) (by omega) (by omega)
            rw [show (((j - 1 : Nat) : Int)) = (j : Int) - 1 by omega] at hr
            rw [hr, Oper.upon_value]
            have HS4 := Aside0.mk hs3
            have HD4 := Aside0.mk ((hk3 w.heap.size (by omega)).trans HD3.out)
            have HI4 := Aside0.mk (show insInner lt 0 (j - 1) (swp dj j (j - 1)) = insInner lt 0 i dk by rw [← HI.out, insInner_go lt 0 j dj hj hlv])
            clear hr hs3 hk3 c0 c1 HS3 HD3 hb
            go_wp2
            go_roundw
            case rel =>
              (repeat apply Exists.intro)
              refine ⟨⟨j - 1, swp dj j (j - 1), by congr 1 <;> omega, by omega, HS4, HD4, HI4⟩, ?_⟩
              rw [decide_eq_true hlt, show ((j - 1 : Nat) : Int) = (j : Int) - 1 by omega]
            case measure => simp [intOf]; omega
          | false =>
            rw [hlv] at hl
            go_wp2_with (rw [X.eg]; refine hl.mono ?_; rintro e w2 ⟨rfl, hb⟩)
            have HS3 := Aside0.mk (X.step _ _ _ HS2.out hb)
            have HD3 := Aside0.mk (blk_below HD2.out hb)
            go_roundw
            case rel => exact ⟨i + 1, dj, by go_num, by omega, by omega, HS3, HD3, ⟨OUT.out (.inr hlv)⟩⟩
            case measure => simp [intOf]; omega
        · go_wp2
          go_roundw
          case rel => exact ⟨i + 1, dj, by go_num, by omega, by omega, HS2, HD2, ⟨OUT.out (.inl (by omega))⟩⟩
          case measure => simp [intOf]; omega
    · -- the outer loop is at its end
      go_end0
      exact ⟨rfl, by unfold Go.Sort.insertionSort; rw [← HO.out, insOuter_stop _ _ _ _ _ (by omega)]; exact HS.out⟩
theorem pdq_ok {α : Type} [Inhabited α] {lt : α → α → Bool} {S : Array α → World → Prop} {g sf : Nat} {lb sb : Array Value} {n g0 : Nat} (X : Sorts lt S g sf lb sb n g0) (d0 : Array α) (w : World) (hS : S d0 w) (hn : n ≤ 12) (lim : Int) :
    Calls Tryd.prog 97 #[.agg #[.func (.func g) #[] lb, .func (.func sf) #[] sb], .int .i64 0, .int .i64 (n : Int), .int .i64 lim] w fun e w' => e = .returned (.tuple #[]) ∧ S (Go.Sort.insertionSort lt d0 0 n) w' := by
  have hi := Aside0.mk (ins_ok X d0 _ (X.step _ _ _ hS (below_alloc (Below.refl w.heap.size w) (.cells #[.func (.func g) #[] lb, .func (.func sf) #[] sb] 155))) hn)
  clear hS
  go_enter Tryd.func97, Tryd.ntmps97
  go_wp2
  refine wp_loop_rounds 1 ?_
  rw [rounds_succ]
  go_wp2_with (go_at_call 113; refine hi.out.mono ?_; rintro e w2 ⟨rfl, hs⟩)
  (try simp only [Exit.inBlock, Exit.then]); refine bodyPost_ret (results_none rfl _ _ _) rfl ?_
  exact ⟨rfl, hs⟩
noncomputable def slT : TypeInfo := (Tryd.prog.info? 82).get (by kernel_rfl)
noncomputable def slE : TypeInfo := (Tryd.prog.info? 87).get (by kernel_rfl)
theorem slK (n : Nat) (h2 : 2 ≤ n) : swapperK n slE 23 = 9 := by
  have a : slE.hasPointers = true := by kernel_rfl
  have b : (slE.bytes == 8) = false := by kernel_rfl
  have c : (n == 0) = false := by simp; omega
  have d : (n == 1) = false := by simp; omega
  simp [swapperK, a, b, c, d]
theorem slice_ok {α : Type} [Inhabited α] {lt : α → α → Bool} {S : Array α → World → Prop} {g : Nat} {lb : Array Value} {n g0 c : Nat} (A : Option Addr) (hn : n ≤ 12) (h1 : 1 ≤ n)
    (X : Sorts lt S g (if n = 1 then 103 else 110) lb (if n = 1 then #[] else #[.slice A n c, typeHandle Tryd.prog 87]) n g0) (d0 : Array α) (w : World) (hS : S d0 w) :
    Calls Tryd.prog 82 #[.iface 82 (.slice A n c), .func (.func g) #[] lb] w fun e w' => e = .returned (.tuple #[]) ∧ S (Go.Sort.insertionSort lt d0 0 n) w' := by
  refine Any.sort_Slice_of_pdq Tryd.laysGg6 82 87 slT slE (by kernel_rfl) (by kernel_rfl) (by kernel_rfl) (by kernel_rfl) 23 (fun _ => by kernel_rfl) A n c (by omega) (if n = 1 then 103 else 110) ?_ (.func g) #[] lb w _ ?_
  · by_cases h : n = 1
    · subst h; kernel_rfl
    · rw [slK n (by omega), if_neg h]; kernel_rfl
  · have hb : sliceBound Tryd.prog 87 slE 23 A n c = if n = 1 then #[] else #[.slice A n c, typeHandle Tryd.prog 87] := by
      unfold sliceBound
      by_cases h : n = 1
      · subst h; rw [if_pos (by decide), if_pos rfl]
      · rw [slK n (by omega), if_neg (by omega), if_neg h]
    rw [hb]
    exact pdq_ok X d0 _ (X.step _ _ _ (X.step _ _ _ hS (below_alloc (Below.refl _ _) _)) (below_alloc (Below.refl _ _) _)) hn _
end Go.Proofs.YtlcoodjkolponaaDoor.PRR
