/-
  Contract of geSmall: it answers true only at small whole numbers. Condition: words of 64 bits.
-/
import Derived.Test.YtjhgmpeoagndjaaGreatGWr
namespace Go.Proofs.YtjhgmpeoagndjaaGreat.GE
open Go.RowKit Go.Proofs.YtjhgmpeoagndjaaGreatW.PrintWords Go.Proofs.YtjhgmpeoagndjaaGreatW.PrintLast Go.Proofs.YtjhgmpeoagndjaaGreatW.PrintMore
open Go.Proofs.YtjhgmpeoagndjaaGreat.Flo
set_option linter.unusedVariables false
set_option linter.unusedSimpArgs false
set_option maxRecDepth 100000
set_option maxHeartbeats 1000000

/-- A point of two small whole numbers. -/
def Ok2 (p : Nat × Nat) : Prop := (∃ n, Sm p.1 n) ∧ ∃ n, Sm p.2 n
theorem small1_ok (b0 b1 : Nat) (h0 : b0 < 18446744073709551616) (h1 : b1 < 18446744073709551616) : ∃ r : Bool, (r = false → Ok2 (b0, b1)) ∧ ∀ w, Calls Tryz.prog 9 #[pt b0 b1] w fun e w' => e = .returned (.bool r) ∧ Below w.heap.size w w' := by
  obtain ⟨k0, p0, hT0⟩ := trunc_ok b0
  obtain ⟨k1, p1, hT1⟩ := trunc_ok b1
  refine ⟨k0 || (k1 || (bigB b0 || bigB b1)), ?_, ?_⟩
  · intro h
    cases k0
    · cases k1
      · cases h2 : bigB b0
        · cases h3 : bigB b1
          · exact ⟨p0 rfl h2, p1 rfl h3⟩
          · rw [h2, h3] at h; cases h
        · rw [h2] at h; cases h
      · cases h
    · cases h
  intro w
  have M1 := Aside0.mk hT0
  have M2 := Aside0.mk hT1
  have M3 := Aside0.mk (fun W => abs_ok b0 h0 W)
  have M4 := Aside0.mk (fun W => abs_ok b1 h1 W)
  obtain ⟨c0, hc0⟩ : ∃ c, bigB b0 = c := ⟨_, rfl⟩
  obtain ⟨c1, hc1⟩ : ∃ c, bigB b1 = c := ⟨_, rfl⟩
  rw [hc0, hc1]
  unfold bigB at hc0 hc1
  generalize b0 % 2 ^ 63 = m0 at *
  generalize b1 % 2 ^ 63 = m1 at *
  clear hT0 hT1 p0 p1 h0 h1
  cases k0
  case true =>
    go_enter Tryz.func9, Tryz.ntmps9
    go_wp2
    refine wp_region_noPanic ?_
    refine wp_region_held_drew (S := fun W => W.cell? ⟨w.heap.size, 0, none⟩ = some (.float .f64 b0) ∧ W.cell? ⟨w.heap.size, 1, none⟩ = some (.float .f64 b1) ∧ Below w.heap.size w W) (by kernel_rfl) ?_ (fun hHeld => ?_)
    · (first | (go_split_ands; refine ⟨?_, ?_, ?_⟩ <;> assumption) | (go_split_ands; exact ⟨pw_cell_below hb (by assumption), pw_cell_below hb (by assumption), below_step (by assumption) hb⟩) | (refine ⟨?_, ?_, ?_⟩; (iterate 2 (focus (first | assumption | (simp [go_sem]; done) | (simp [go_sem, *]; done)))); repeat (first | (with_reducible exact Below.refl _ _) | (with_reducible apply below_drew) | (with_reducible apply below_alloc))))
    refine take_ (oi := ?oi1) (i := 0) (N := some 3) (v := ?v1) ?hi1 (by kernel_rfl) (by kernel_rfl) (by kernel_rfl) ?hQ1 ?hN1 (Or.inl ⟨?hw1, ?hy1⟩) (by assumption) ?rest1
    case hi1 => simp only [List.getElem?_toArray, List.getElem?_cons_zero, List.getElem?_cons_succ]; rfl
    case hQ1 => exact fun _ _ _ h => h
    case hN1 => rfl
    case hw1 => rfl
    case hy1 => intro W hSw; (try dsimp only at hSw); go_split_ands; go_simp; (try with_reducible rfl)
    simp only [Act.put, List.setIfInBounds_toArray, List.set_cons_zero, List.set_cons_succ]
    refine take_ (oi := ?oi2) (i := 1) (N := some 4) (v := ?v2) ?hi2 (by kernel_rfl) (by kernel_rfl) (by kernel_rfl) ?hQ2 ?hN2 (Or.inl ⟨?hw2, ?hy2⟩) (by assumption) ?rest2
    case hi2 => simp only [List.getElem?_toArray, List.getElem?_cons_zero, List.getElem?_cons_succ]; rfl
    case hQ2 => exact fun _ _ _ h => h
    case hN2 => rfl
    case hw2 => rfl
    case hy2 => intro W hSw; (try dsimp only at hSw); go_split_ands; go_simp; (try with_reducible rfl)
    simp only [Act.put, List.setIfInBounds_toArray, List.set_cons_zero, List.set_cons_succ]
    refine take_ (oi := ?oi3) (i := 2) (N := some 5) (v := ?v3) ?hi3 (by kernel_rfl) (by kernel_rfl) (by kernel_rfl) ?hQ3 ?hN3 (Or.inl ⟨?hw3, ?hy3⟩) (by assumption) ?rest3
    case hi3 => simp only [List.getElem?_toArray, List.getElem?_cons_zero, List.getElem?_cons_succ]; rfl
    case hQ3 => exact fun _ _ _ h => h
    case hN3 => rfl
    case hw3 => rfl
    case hy3 => intro W hSw; (try dsimp only at hSw); go_split_ands; go_simp; (try with_reducible rfl)
    simp only [Act.put, List.setIfInBounds_toArray, List.set_cons_zero, List.set_cons_succ]
    refine take_ (oi := ?oi4) (i := 3) (N := some 6) (v := ?v4) ?hi4 (by kernel_rfl) (by kernel_rfl) (by kernel_rfl) ?hQ4 ?hN4 (Or.inl ⟨?hw4, ?hy4⟩) (by assumption) ?rest4
    case hi4 => simp only [List.getElem?_toArray, List.getElem?_cons_zero, List.getElem?_cons_succ]; rfl
    case hQ4 => exact fun _ _ _ h => h
    case hN4 => rfl
    case hw4 => rfl
    case hy4 => intro W hSw; (try dsimp only at hSw); go_split_ands; go_simp; (try with_reducible rfl)
    simp only [Act.put, List.setIfInBounds_toArray, List.set_cons_zero, List.set_cons_succ]
    refine wpAnyH_ready (rs := [4]) (by kernel_rfl) (by simp) ?_
    refine AllReadyH.cons (o := ?oi5) ?hi5 (fun K hK => ?step5) AllReadyH.nil
    case hi5 => simp only [List.getElem?_toArray, List.getElem?_cons_zero, List.getElem?_cons_succ]; rfl
    refine goes_ (N := some 7) Tryz.func10 (by kernel_rfl) rfl #[.float .f64 b0] (by rfl) rfl rfl (by (try simp only [List.map_toArray, List.map_cons, List.map_nil]); rfl) ?_
    refine (M1.out _).mono ?_
    rintro e v4 ⟨t4, rfl, hq4, hb⟩
    refine ⟨_, rfl, ?_⟩
    refine hK.out _ _ ?_ (fun hHeld => ?_)
    · (first | (go_split_ands; refine ⟨?_, ?_, ?_⟩ <;> assumption) | (go_split_ands; exact ⟨pw_cell_below hb (by assumption), pw_cell_below hb (by assumption), below_step (by assumption) hb⟩) | (refine ⟨?_, ?_, ?_⟩; (iterate 2 (focus (first | assumption | (simp [go_sem]; done) | (simp [go_sem, *]; done)))); repeat (first | (with_reducible exact Below.refl _ _) | (with_reducible apply below_drew) | (with_reducible apply below_alloc))))
    clear hK K
    simp only [Act.put, List.setIfInBounds_toArray, List.set_cons_zero, List.set_cons_succ]
    refine take_ (oi := ?oi6) (i := 5) (N := some 8) (v := ?v6) ?hi6 (by kernel_rfl) (by kernel_rfl) (by kernel_rfl) ?hQ6 ?hN6 (Or.inl ⟨?hw6, ?hy6⟩) (by assumption) ?rest6
    case hi6 => simp only [List.getElem?_toArray, List.getElem?_cons_zero, List.getElem?_cons_succ]; rfl
    case hQ6 => exact fun _ _ _ h => h
    case hN6 => rfl
    case hw6 => rfl
    case hy6 => intro W hSw; (try dsimp only at hSw); go_split_ands; go_simp; (try with_reducible rfl)
    simp only [Act.put, List.setIfInBounds_toArray, List.set_cons_zero, List.set_cons_succ]
    refine take_ (oi := ?oi7) (i := 6) (N := some 9) (v := ?v7) ?hi7 (by kernel_rfl) (by kernel_rfl) (by kernel_rfl) ?hQ7 ?hN7 (Or.inl ⟨?hw7, ?hy7⟩) (by assumption) ?rest7
    case hi7 => simp only [List.getElem?_toArray, List.getElem?_cons_zero, List.getElem?_cons_succ]; rfl
    case hQ7 => exact fun _ _ _ h => h
    case hN7 => rfl
    case hw7 => rfl
    case hy7 => intro W hSw; (try dsimp only at hSw); go_split_ands; go_simp; (try with_reducible rfl)
    simp only [Act.put, List.setIfInBounds_toArray, List.set_cons_zero, List.set_cons_succ]
    refine take_ (oi := ?oi8) (i := 7) (N := some 10) (v := undef) ?hi8 (by kernel_rfl) (by kernel_rfl) (by kernel_rfl) ?hQ8 ?hN8 (Or.inr ⟨?hw8, rfl⟩) (by assumption) ?rest8
    case hi8 => simp only [List.getElem?_toArray, List.getElem?_cons_zero, List.getElem?_cons_succ]; rfl
    case hQ8 => exact fun _ _ _ h => h
    case hN8 => rfl
    case hw8 => rfl
    simp only [Act.put, List.setIfInBounds_toArray, List.set_cons_zero, List.set_cons_succ]
    refine take_ (oi := ?oi9) (i := 8) (N := some 11) (v := undef) ?hi9 (by kernel_rfl) (by kernel_rfl) (by kernel_rfl) ?hQ9 ?hN9 (Or.inr ⟨?hw9, rfl⟩) (by assumption) ?rest9
    case hi9 => simp only [List.getElem?_toArray, List.getElem?_cons_zero, List.getElem?_cons_succ]; rfl
    case hQ9 => exact fun _ _ _ h => h
    case hN9 => rfl
    case hw9 => rfl
    simp only [Act.put, List.setIfInBounds_toArray, List.set_cons_zero, List.set_cons_succ]
    refine take_ (oi := ?oi10) (i := 9) (N := some 12) (v := undef) ?hi10 (by kernel_rfl) (by kernel_rfl) (by kernel_rfl) ?hQ10 ?hN10 (Or.inr ⟨?hw10, rfl⟩) (by assumption) ?rest10
    case hi10 => simp only [List.getElem?_toArray, List.getElem?_cons_zero, List.getElem?_cons_succ]; rfl
    case hQ10 => exact fun _ _ _ h => h
    case hN10 => rfl
    case hw10 => rfl
    simp only [Act.put, List.setIfInBounds_toArray, List.set_cons_zero, List.set_cons_succ]
    refine take_ (oi := ?oi11) (i := 10) (N := some 13) (v := undef) ?hi11 (by kernel_rfl) (by kernel_rfl) (by kernel_rfl) ?hQ11 ?hN11 (Or.inr ⟨?hw11, rfl⟩) (by assumption) ?rest11
    case hi11 => simp only [List.getElem?_toArray, List.getElem?_cons_zero, List.getElem?_cons_succ]; rfl
    case hQ11 => exact fun _ _ _ h => h
    case hN11 => rfl
    case hw11 => rfl
    simp only [Act.put, List.setIfInBounds_toArray, List.set_cons_zero, List.set_cons_succ]
    refine take_ (oi := ?oi12) (i := 11) (N := some 14) (v := undef) ?hi12 (by kernel_rfl) (by kernel_rfl) (by kernel_rfl) ?hQ12 ?hN12 (Or.inr ⟨?hw12, rfl⟩) (by assumption) ?rest12
    case hi12 => simp only [List.getElem?_toArray, List.getElem?_cons_zero, List.getElem?_cons_succ]; rfl
    case hQ12 => exact fun _ _ _ h => h
    case hN12 => rfl
    case hw12 => rfl
    simp only [Act.put, List.setIfInBounds_toArray, List.set_cons_zero, List.set_cons_succ]
    refine take_ (oi := ?oi13) (i := 12) (N := some 15) (v := undef) ?hi13 (by kernel_rfl) (by kernel_rfl) (by kernel_rfl) ?hQ13 ?hN13 (Or.inr ⟨?hw13, rfl⟩) (by assumption) ?rest13
    case hi13 => simp only [List.getElem?_toArray, List.getElem?_cons_zero, List.getElem?_cons_succ]; rfl
    case hQ13 => exact fun _ _ _ h => h
    case hN13 => rfl
    case hw13 => rfl
    simp only [Act.put, List.setIfInBounds_toArray, List.set_cons_zero, List.set_cons_succ]
    refine take_ (oi := ?oi14) (i := 13) (N := some 16) (v := ?v14) ?hi14 (by kernel_rfl) (by kernel_rfl) (by kernel_rfl) ?hQ14 ?hN14 (Or.inl ⟨?hw14, ?hy14⟩) (by assumption) ?rest14
    case hi14 => simp only [List.getElem?_toArray, List.getElem?_cons_zero, List.getElem?_cons_succ]; rfl
    case hQ14 => exact fun _ _ _ h => h
    case hN14 => rfl
    case hw14 => rfl
    case hy14 => intro W hSw; (try dsimp only at hSw); go_split_ands; go_simp; (try with_reducible rfl)
    simp only [Act.put, List.setIfInBounds_toArray, List.set_cons_zero, List.set_cons_succ]
    refine take_ (oi := ?oi15) (i := 14) (N := some 17) (v := ?v15) ?hi15 (by kernel_rfl) (by kernel_rfl) (by kernel_rfl) ?hQ15 ?hN15 (Or.inl ⟨?hw15, ?hy15⟩) (by assumption) ?rest15
    case hi15 => simp only [List.getElem?_toArray, List.getElem?_cons_zero, List.getElem?_cons_succ]; rfl
    case hQ15 => exact fun _ _ _ h => h
    case hN15 => rfl
    case hw15 => rfl
    case hy15 => intro W hSw; (try dsimp only at hSw); go_split_ands; go_simp; (try with_reducible rfl)
    simp only [Act.put, List.setIfInBounds_toArray, List.set_cons_zero, List.set_cons_succ]
    refine take_ (oi := ?oi16) (i := 15) (N := some 18) (v := undef) ?hi16 (by kernel_rfl) (by kernel_rfl) (by kernel_rfl) ?hQ16 ?hN16 (Or.inr ⟨?hw16, rfl⟩) (by assumption) ?rest16
    case hi16 => simp only [List.getElem?_toArray, List.getElem?_cons_zero, List.getElem?_cons_succ]; rfl
    case hQ16 => exact fun _ _ _ h => h
    case hN16 => rfl
    case hw16 => rfl
    simp only [Act.put, List.setIfInBounds_toArray, List.set_cons_zero, List.set_cons_succ]
    refine take_ (oi := ?oi17) (i := 16) (N := some 19) (v := undef) ?hi17 (by kernel_rfl) (by kernel_rfl) (by kernel_rfl) ?hQ17 ?hN17 (Or.inr ⟨?hw17, rfl⟩) (by assumption) ?rest17
    case hi17 => simp only [List.getElem?_toArray, List.getElem?_cons_zero, List.getElem?_cons_succ]; rfl
    case hQ17 => exact fun _ _ _ h => h
    case hN17 => rfl
    case hw17 => rfl
    simp only [Act.put, List.setIfInBounds_toArray, List.set_cons_zero, List.set_cons_succ]
    refine take_ (oi := ?oi18) (i := 17) (N := some 20) (v := undef) ?hi18 (by kernel_rfl) (by kernel_rfl) (by kernel_rfl) ?hQ18 ?hN18 (Or.inr ⟨?hw18, rfl⟩) (by assumption) ?rest18
    case hi18 => simp only [List.getElem?_toArray, List.getElem?_cons_zero, List.getElem?_cons_succ]; rfl
    case hQ18 => exact fun _ _ _ h => h
    case hN18 => rfl
    case hw18 => rfl
    simp only [Act.put, List.setIfInBounds_toArray, List.set_cons_zero, List.set_cons_succ]
    refine take_ (oi := ?oi19) (i := 18) (N := some 21) (v := undef) ?hi19 (by kernel_rfl) (by kernel_rfl) (by kernel_rfl) ?hQ19 ?hN19 (Or.inr ⟨?hw19, rfl⟩) (by assumption) ?rest19
    case hi19 => simp only [List.getElem?_toArray, List.getElem?_cons_zero, List.getElem?_cons_succ]; rfl
    case hQ19 => exact fun _ _ _ h => h
    case hN19 => rfl
    case hw19 => rfl
    simp only [Act.put, List.setIfInBounds_toArray, List.set_cons_zero, List.set_cons_succ]
    refine take_ (oi := ?oi20) (i := 19) (N := some 22) (v := ?v20) ?hi20 (by kernel_rfl) (by kernel_rfl) (by kernel_rfl) ?hQ20 ?hN20 (Or.inl ⟨?hw20, ?hy20⟩) (by assumption) ?rest20
    case hi20 => simp only [List.getElem?_toArray, List.getElem?_cons_zero, List.getElem?_cons_succ]; rfl
    case hQ20 => exact fun _ _ _ h => h
    case hN20 => rfl
    case hw20 => rfl
    case hy20 => intro W hSw; (try dsimp only at hSw); go_split_ands; go_simp; (try with_reducible rfl)
    simp only [Act.put, List.setIfInBounds_toArray, List.set_cons_zero, List.set_cons_succ]
    refine take_ (oi := ?oi21) (i := 20) (N := some 23) (v := ?v21) ?hi21 (by kernel_rfl) (by kernel_rfl) (by kernel_rfl) ?hQ21 ?hN21 (Or.inl ⟨?hw21, ?hy21⟩) (by assumption) ?rest21
    case hi21 => simp only [List.getElem?_toArray, List.getElem?_cons_zero, List.getElem?_cons_succ]; rfl
    case hQ21 => exact fun _ _ _ h => h
    case hN21 => rfl
    case hw21 => rfl
    case hy21 => intro W hSw; (try dsimp only at hSw); go_split_ands; go_simp; (try with_reducible rfl)
    simp only [Act.put, List.setIfInBounds_toArray, List.set_cons_zero, List.set_cons_succ]
    refine take_ (oi := ?oi22) (i := 21) (N := some 24) (v := undef) ?hi22 (by kernel_rfl) (by kernel_rfl) (by kernel_rfl) ?hQ22 ?hN22 (Or.inr ⟨?hw22, rfl⟩) (by assumption) ?rest22
    case hi22 => simp only [List.getElem?_toArray, List.getElem?_cons_zero, List.getElem?_cons_succ]; rfl
    case hQ22 => exact fun _ _ _ h => h
    case hN22 => rfl
    case hw22 => rfl
    simp only [Act.put, List.setIfInBounds_toArray, List.set_cons_zero, List.set_cons_succ]
    refine take_ (oi := ?oi23) (i := 22) (N := some 25) (v := undef) ?hi23 (by kernel_rfl) (by kernel_rfl) (by kernel_rfl) ?hQ23 ?hN23 (Or.inr ⟨?hw23, rfl⟩) (by assumption) ?rest23
    case hi23 => simp only [List.getElem?_toArray, List.getElem?_cons_zero, List.getElem?_cons_succ]; rfl
    case hQ23 => exact fun _ _ _ h => h
    case hN23 => rfl
    case hw23 => rfl
    simp only [Act.put, List.setIfInBounds_toArray, List.set_cons_zero, List.set_cons_succ]
    refine take_ (oi := ?oi24) (i := 23) (N := some 26) (v := undef) ?hi24 (by kernel_rfl) (by kernel_rfl) (by kernel_rfl) ?hQ24 ?hN24 (Or.inr ⟨?hw24, rfl⟩) (by assumption) ?rest24
    case hi24 => simp only [List.getElem?_toArray, List.getElem?_cons_zero, List.getElem?_cons_succ]; rfl
    case hQ24 => exact fun _ _ _ h => h
    case hN24 => rfl
    case hw24 => rfl
    simp only [Act.put, List.setIfInBounds_toArray, List.set_cons_zero, List.set_cons_succ]
    refine take_ (oi := ?oi25) (i := 24) (N := some 27) (v := undef) ?hi25 (by kernel_rfl) (by kernel_rfl) (by kernel_rfl) ?hQ25 ?hN25 (Or.inr ⟨?hw25, rfl⟩) (by assumption) ?rest25
    case hi25 => simp only [List.getElem?_toArray, List.getElem?_cons_zero, List.getElem?_cons_succ]; rfl
    case hQ25 => exact fun _ _ _ h => h
    case hN25 => rfl
    case hw25 => rfl
    simp only [Act.put, List.setIfInBounds_toArray, List.set_cons_zero, List.set_cons_succ]
    refine take_ (oi := ?oi26) (i := 25) (N := some 28) (v := ?v26) ?hi26 (by kernel_rfl) (by kernel_rfl) (by kernel_rfl) ?hQ26 ?hN26 (Or.inl ⟨?hw26, ?hy26⟩) (by assumption) ?rest26
    case hi26 => simp only [List.getElem?_toArray, List.getElem?_cons_zero, List.getElem?_cons_succ]; rfl
    case hQ26 => exact fun _ _ _ h => h
    case hN26 => rfl
    case hw26 => rfl
    case hy26 => intro W hSw; (try dsimp only at hSw); go_split_ands; go_simp; (try with_reducible rfl)
    simp only [Act.put, List.setIfInBounds_toArray, List.set_cons_zero, List.set_cons_succ]
    refine take_ (oi := ?oi27) (i := 26) (N := some 2) (v := ?v27) ?hi27 (by kernel_rfl) (by kernel_rfl) (by kernel_rfl) ?hQ27 ?hN27 (Or.inl ⟨?hw27, ?hy27⟩) (by assumption) ?rest27
    case hi27 => simp only [List.getElem?_toArray, List.getElem?_cons_zero, List.getElem?_cons_succ]; rfl
    case hQ27 => exact fun _ _ _ h => h
    case hN27 => rfl
    case hw27 => rfl
    case hy27 => intro W hSw; (try dsimp only at hSw); go_split_ands; go_simp; (try with_reducible rfl)
    simp only [Act.put, List.setIfInBounds_toArray, List.set_cons_zero, List.set_cons_succ]
    refine wpAnyH_done (by kernel_rfl) ?_ _
    refine NoPanic.normal ?_
    go_wp2
    go_ret
    go_split_ands
    exact ⟨rfl, by assumption⟩
  case false =>
    cases k1
    case true =>
      go_enter Tryz.func9, Tryz.ntmps9
      go_wp2
      refine wp_region_noPanic ?_
      refine wp_region_held_drew (S := fun W => W.cell? ⟨w.heap.size, 0, none⟩ = some (.float .f64 b0) ∧ W.cell? ⟨w.heap.size, 1, none⟩ = some (.float .f64 b1) ∧ Below w.heap.size w W) (by kernel_rfl) ?_ (fun hHeld => ?_)
      · (first | (go_split_ands; refine ⟨?_, ?_, ?_⟩ <;> assumption) | (go_split_ands; exact ⟨pw_cell_below hb (by assumption), pw_cell_below hb (by assumption), below_step (by assumption) hb⟩) | (refine ⟨?_, ?_, ?_⟩; (iterate 2 (focus (first | assumption | (simp [go_sem]; done) | (simp [go_sem, *]; done)))); repeat (first | (with_reducible exact Below.refl _ _) | (with_reducible apply below_drew) | (with_reducible apply below_alloc))))
      refine take_ (oi := ?oi28) (i := 0) (N := some 3) (v := ?v28) ?hi28 (by kernel_rfl) (by kernel_rfl) (by kernel_rfl) ?hQ28 ?hN28 (Or.inl ⟨?hw28, ?hy28⟩) (by assumption) ?rest28
      case hi28 => simp only [List.getElem?_toArray, List.getElem?_cons_zero, List.getElem?_cons_succ]; rfl
      case hQ28 => exact fun _ _ _ h => h
      case hN28 => rfl
      case hw28 => rfl
      case hy28 => intro W hSw; (try dsimp only at hSw); go_split_ands; go_simp; (try with_reducible rfl)
      simp only [Act.put, List.setIfInBounds_toArray, List.set_cons_zero, List.set_cons_succ]
      refine take_ (oi := ?oi29) (i := 1) (N := some 4) (v := ?v29) ?hi29 (by kernel_rfl) (by kernel_rfl) (by kernel_rfl) ?hQ29 ?hN29 (Or.inl ⟨?hw29, ?hy29⟩) (by assumption) ?rest29
      case hi29 => simp only [List.getElem?_toArray, List.getElem?_cons_zero, List.getElem?_cons_succ]; rfl
      case hQ29 => exact fun _ _ _ h => h
      case hN29 => rfl
      case hw29 => rfl
      case hy29 => intro W hSw; (try dsimp only at hSw); go_split_ands; go_simp; (try with_reducible rfl)
      simp only [Act.put, List.setIfInBounds_toArray, List.set_cons_zero, List.set_cons_succ]
      refine take_ (oi := ?oi30) (i := 2) (N := some 5) (v := ?v30) ?hi30 (by kernel_rfl) (by kernel_rfl) (by kernel_rfl) ?hQ30 ?hN30 (Or.inl ⟨?hw30, ?hy30⟩) (by assumption) ?rest30
      case hi30 => simp only [List.getElem?_toArray, List.getElem?_cons_zero, List.getElem?_cons_succ]; rfl
      case hQ30 => exact fun _ _ _ h => h
      case hN30 => rfl
      case hw30 => rfl
      case hy30 => intro W hSw; (try dsimp only at hSw); go_split_ands; go_simp; (try with_reducible rfl)
      simp only [Act.put, List.setIfInBounds_toArray, List.set_cons_zero, List.set_cons_succ]
      refine take_ (oi := ?oi31) (i := 3) (N := some 6) (v := ?v31) ?hi31 (by kernel_rfl) (by kernel_rfl) (by kernel_rfl) ?hQ31 ?hN31 (Or.inl ⟨?hw31, ?hy31⟩) (by assumption) ?rest31
      case hi31 => simp only [List.getElem?_toArray, List.getElem?_cons_zero, List.getElem?_cons_succ]; rfl
      case hQ31 => exact fun _ _ _ h => h
      case hN31 => rfl
      case hw31 => rfl
      case hy31 => intro W hSw; (try dsimp only at hSw); go_split_ands; go_simp; (try with_reducible rfl)
      simp only [Act.put, List.setIfInBounds_toArray, List.set_cons_zero, List.set_cons_succ]
      refine wpAnyH_ready (rs := [4]) (by kernel_rfl) (by simp) ?_
      refine AllReadyH.cons (o := ?oi32) ?hi32 (fun K hK => ?step32) AllReadyH.nil
      case hi32 => simp only [List.getElem?_toArray, List.getElem?_cons_zero, List.getElem?_cons_succ]; rfl
      refine goes_ (N := some 7) Tryz.func10 (by kernel_rfl) rfl #[.float .f64 b0] (by rfl) rfl rfl (by (try simp only [List.map_toArray, List.map_cons, List.map_nil]); rfl) ?_
      refine (M1.out _).mono ?_
      rintro e v4 ⟨t4, rfl, hq4, hb⟩
      refine ⟨_, rfl, ?_⟩
      refine hK.out _ _ ?_ (fun hHeld => ?_)
      · (first | (go_split_ands; refine ⟨?_, ?_, ?_⟩ <;> assumption) | (go_split_ands; exact ⟨pw_cell_below hb (by assumption), pw_cell_below hb (by assumption), below_step (by assumption) hb⟩) | (refine ⟨?_, ?_, ?_⟩; (iterate 2 (focus (first | assumption | (simp [go_sem]; done) | (simp [go_sem, *]; done)))); repeat (first | (with_reducible exact Below.refl _ _) | (with_reducible apply below_drew) | (with_reducible apply below_alloc))))
      clear hK K
      simp only [Act.put, List.setIfInBounds_toArray, List.set_cons_zero, List.set_cons_succ]
      refine take_ (oi := ?oi33) (i := 5) (N := some 8) (v := ?v33) ?hi33 (by kernel_rfl) (by kernel_rfl) (by kernel_rfl) ?hQ33 ?hN33 (Or.inl ⟨?hw33, ?hy33⟩) (by assumption) ?rest33
      case hi33 => simp only [List.getElem?_toArray, List.getElem?_cons_zero, List.getElem?_cons_succ]; rfl
      case hQ33 => exact fun _ _ _ h => h
      case hN33 => rfl
      case hw33 => rfl
      case hy33 => intro W hSw; (try dsimp only at hSw); go_split_ands; go_simp; (try with_reducible rfl)
      simp only [Act.put, List.setIfInBounds_toArray, List.set_cons_zero, List.set_cons_succ]
      refine take_ (oi := ?oi34) (i := 6) (N := some 9) (v := ?v34) ?hi34 (by kernel_rfl) (by kernel_rfl) (by kernel_rfl) ?hQ34 ?hN34 (Or.inl ⟨?hw34, ?hy34⟩) (by assumption) ?rest34
      case hi34 => simp only [List.getElem?_toArray, List.getElem?_cons_zero, List.getElem?_cons_succ]; rfl
      case hQ34 => exact fun _ _ _ h => h
      case hN34 => rfl
      case hw34 => rfl
      case hy34 => intro W hSw; (try dsimp only at hSw); go_split_ands; go_simp; (try with_reducible rfl)
      simp only [Act.put, List.setIfInBounds_toArray, List.set_cons_zero, List.set_cons_succ]
      refine take_ (oi := ?oi35) (i := 7) (N := some 10) (v := ?v35) ?hi35 (by kernel_rfl) (by kernel_rfl) (by kernel_rfl) ?hQ35 ?hN35 (Or.inl ⟨?hw35, ?hy35⟩) (by assumption) ?rest35
      case hi35 => simp only [List.getElem?_toArray, List.getElem?_cons_zero, List.getElem?_cons_succ]; rfl
      case hQ35 => exact fun _ _ _ h => h
      case hN35 => rfl
      case hw35 => rfl
      case hy35 => intro W hSw; (try dsimp only at hSw); go_split_ands; go_simp; (try with_reducible rfl)
      simp only [Act.put, List.setIfInBounds_toArray, List.set_cons_zero, List.set_cons_succ]
      refine take_ (oi := ?oi36) (i := 8) (N := some 11) (v := ?v36) ?hi36 (by kernel_rfl) (by kernel_rfl) (by kernel_rfl) ?hQ36 ?hN36 (Or.inl ⟨?hw36, ?hy36⟩) (by assumption) ?rest36
      case hi36 => simp only [List.getElem?_toArray, List.getElem?_cons_zero, List.getElem?_cons_succ]; rfl
      case hQ36 => exact fun _ _ _ h => h
      case hN36 => rfl
      case hw36 => rfl
      case hy36 => intro W hSw; (try dsimp only at hSw); go_split_ands; go_simp; (try with_reducible rfl)
      simp only [Act.put, List.setIfInBounds_toArray, List.set_cons_zero, List.set_cons_succ]
      refine take_ (oi := ?oi37) (i := 9) (N := some 12) (v := ?v37) ?hi37 (by kernel_rfl) (by kernel_rfl) (by kernel_rfl) ?hQ37 ?hN37 (Or.inl ⟨?hw37, ?hy37⟩) (by assumption) ?rest37
      case hi37 => simp only [List.getElem?_toArray, List.getElem?_cons_zero, List.getElem?_cons_succ]; rfl
      case hQ37 => exact fun _ _ _ h => h
      case hN37 => rfl
      case hw37 => rfl
      case hy37 => intro W hSw; (try dsimp only at hSw); go_split_ands; go_simp; (try with_reducible rfl)
      simp only [Act.put, List.setIfInBounds_toArray, List.set_cons_zero, List.set_cons_succ]
      refine take_ (oi := ?oi38) (i := 10) (N := some 13) (v := ?v38) ?hi38 (by kernel_rfl) (by kernel_rfl) (by kernel_rfl) ?hQ38 ?hN38 (Or.inl ⟨?hw38, ?hy38⟩) (by assumption) ?rest38
      case hi38 => simp only [List.getElem?_toArray, List.getElem?_cons_zero, List.getElem?_cons_succ]; rfl
      case hQ38 => exact fun _ _ _ h => h
      case hN38 => rfl
      case hw38 => rfl
      case hy38 => intro W hSw; (try dsimp only at hSw); go_split_ands; go_simp; (try with_reducible rfl)
      simp only [Act.put, List.setIfInBounds_toArray, List.set_cons_zero, List.set_cons_succ]
      refine wpAnyH_ready (rs := [11]) (by kernel_rfl) (by simp) ?_
      refine AllReadyH.cons (o := ?oi39) ?hi39 (fun K hK => ?step39) AllReadyH.nil
      case hi39 => simp only [List.getElem?_toArray, List.getElem?_cons_zero, List.getElem?_cons_succ]; rfl
      refine goes_ (N := some 14) Tryz.func10 (by kernel_rfl) rfl #[.float .f64 b1] (by rfl) rfl rfl (by (try simp only [List.map_toArray, List.map_cons, List.map_nil]); rfl) ?_
      refine (M2.out _).mono ?_
      rintro e v11 ⟨t11, rfl, hq11, hb⟩
      refine ⟨_, rfl, ?_⟩
      refine hK.out _ _ ?_ (fun hHeld => ?_)
      · (first | (go_split_ands; refine ⟨?_, ?_, ?_⟩ <;> assumption) | (go_split_ands; exact ⟨pw_cell_below hb (by assumption), pw_cell_below hb (by assumption), below_step (by assumption) hb⟩) | (refine ⟨?_, ?_, ?_⟩; (iterate 2 (focus (first | assumption | (simp [go_sem]; done) | (simp [go_sem, *]; done)))); repeat (first | (with_reducible exact Below.refl _ _) | (with_reducible apply below_drew) | (with_reducible apply below_alloc))))
      clear hK K
      simp only [Act.put, List.setIfInBounds_toArray, List.set_cons_zero, List.set_cons_succ]
      refine take_ (oi := ?oi40) (i := 12) (N := some 15) (v := ?v40) ?hi40 (by kernel_rfl) (by kernel_rfl) (by kernel_rfl) ?hQ40 ?hN40 (Or.inl ⟨?hw40, ?hy40⟩) (by assumption) ?rest40
      case hi40 => simp only [List.getElem?_toArray, List.getElem?_cons_zero, List.getElem?_cons_succ]; rfl
      case hQ40 => exact fun _ _ _ h => h
      case hN40 => rfl
      case hw40 => rfl
      case hy40 => intro W hSw; (try dsimp only at hSw); go_split_ands; go_simp; (try with_reducible rfl)
      simp only [Act.put, List.setIfInBounds_toArray, List.set_cons_zero, List.set_cons_succ]
      refine take_ (oi := ?oi41) (i := 13) (N := some 16) (v := ?v41) ?hi41 (by kernel_rfl) (by kernel_rfl) (by kernel_rfl) ?hQ41 ?hN41 (Or.inl ⟨?hw41, ?hy41⟩) (by assumption) ?rest41
      case hi41 => simp only [List.getElem?_toArray, List.getElem?_cons_zero, List.getElem?_cons_succ]; rfl
      case hQ41 => exact fun _ _ _ h => h
      case hN41 => rfl
      case hw41 => rfl
      case hy41 => intro W hSw; (try dsimp only at hSw); go_split_ands; go_simp; (try with_reducible rfl)
      simp only [Act.put, List.setIfInBounds_toArray, List.set_cons_zero, List.set_cons_succ]
      refine take_ (oi := ?oi42) (i := 14) (N := some 17) (v := ?v42) ?hi42 (by kernel_rfl) (by kernel_rfl) (by kernel_rfl) ?hQ42 ?hN42 (Or.inl ⟨?hw42, ?hy42⟩) (by assumption) ?rest42
      case hi42 => simp only [List.getElem?_toArray, List.getElem?_cons_zero, List.getElem?_cons_succ]; rfl
      case hQ42 => exact fun _ _ _ h => h
      case hN42 => rfl
      case hw42 => rfl
      case hy42 => intro W hSw; (try dsimp only at hSw); go_split_ands; go_simp; (try with_reducible rfl)
      simp only [Act.put, List.setIfInBounds_toArray, List.set_cons_zero, List.set_cons_succ]
      refine take_ (oi := ?oi43) (i := 15) (N := some 18) (v := undef) ?hi43 (by kernel_rfl) (by kernel_rfl) (by kernel_rfl) ?hQ43 ?hN43 (Or.inr ⟨?hw43, rfl⟩) (by assumption) ?rest43
      case hi43 => simp only [List.getElem?_toArray, List.getElem?_cons_zero, List.getElem?_cons_succ]; rfl
      case hQ43 => exact fun _ _ _ h => h
      case hN43 => rfl
      case hw43 => rfl
      simp only [Act.put, List.setIfInBounds_toArray, List.set_cons_zero, List.set_cons_succ]
      refine take_ (oi := ?oi44) (i := 16) (N := some 19) (v := undef) ?hi44 (by kernel_rfl) (by kernel_rfl) (by kernel_rfl) ?hQ44 ?hN44 (Or.inr ⟨?hw44, rfl⟩) (by assumption) ?rest44
      case hi44 => simp only [List.getElem?_toArray, List.getElem?_cons_zero, List.getElem?_cons_succ]; rfl
      case hQ44 => exact fun _ _ _ h => h
      case hN44 => rfl
      case hw44 => rfl
      simp only [Act.put, List.setIfInBounds_toArray, List.set_cons_zero, List.set_cons_succ]
      refine take_ (oi := ?oi45) (i := 17) (N := some 20) (v := undef) ?hi45 (by kernel_rfl) (by kernel_rfl) (by kernel_rfl) ?hQ45 ?hN45 (Or.inr ⟨?hw45, rfl⟩) (by assumption) ?rest45
      case hi45 => simp only [List.getElem?_toArray, List.getElem?_cons_zero, List.getElem?_cons_succ]; rfl
      case hQ45 => exact fun _ _ _ h => h
      case hN45 => rfl
      case hw45 => rfl
      simp only [Act.put, List.setIfInBounds_toArray, List.set_cons_zero, List.set_cons_succ]
      refine take_ (oi := ?oi46) (i := 18) (N := some 21) (v := undef) ?hi46 (by kernel_rfl) (by kernel_rfl) (by kernel_rfl) ?hQ46 ?hN46 (Or.inr ⟨?hw46, rfl⟩) (by assumption) ?rest46
      case hi46 => simp only [List.getElem?_toArray, List.getElem?_cons_zero, List.getElem?_cons_succ]; rfl
      case hQ46 => exact fun _ _ _ h => h
      case hN46 => rfl
      case hw46 => rfl
      simp only [Act.put, List.setIfInBounds_toArray, List.set_cons_zero, List.set_cons_succ]
      refine take_ (oi := ?oi47) (i := 19) (N := some 22) (v := ?v47) ?hi47 (by kernel_rfl) (by kernel_rfl) (by kernel_rfl) ?hQ47 ?hN47 (Or.inl ⟨?hw47, ?hy47⟩) (by assumption) ?rest47
      case hi47 => simp only [List.getElem?_toArray, List.getElem?_cons_zero, List.getElem?_cons_succ]; rfl
      case hQ47 => exact fun _ _ _ h => h
      case hN47 => rfl
      case hw47 => rfl
      case hy47 => intro W hSw; (try dsimp only at hSw); go_split_ands; go_simp; (try with_reducible rfl)
      simp only [Act.put, List.setIfInBounds_toArray, List.set_cons_zero, List.set_cons_succ]
      refine take_ (oi := ?oi48) (i := 20) (N := some 23) (v := ?v48) ?hi48 (by kernel_rfl) (by kernel_rfl) (by kernel_rfl) ?hQ48 ?hN48 (Or.inl ⟨?hw48, ?hy48⟩) (by assumption) ?rest48
      case hi48 => simp only [List.getElem?_toArray, List.getElem?_cons_zero, List.getElem?_cons_succ]; rfl
      case hQ48 => exact fun _ _ _ h => h
      case hN48 => rfl
      case hw48 => rfl
      case hy48 => intro W hSw; (try dsimp only at hSw); go_split_ands; go_simp; (try with_reducible rfl)
      simp only [Act.put, List.setIfInBounds_toArray, List.set_cons_zero, List.set_cons_succ]
      refine take_ (oi := ?oi49) (i := 21) (N := some 24) (v := undef) ?hi49 (by kernel_rfl) (by kernel_rfl) (by kernel_rfl) ?hQ49 ?hN49 (Or.inr ⟨?hw49, rfl⟩) (by assumption) ?rest49
      case hi49 => simp only [List.getElem?_toArray, List.getElem?_cons_zero, List.getElem?_cons_succ]; rfl
      case hQ49 => exact fun _ _ _ h => h
      case hN49 => rfl
      case hw49 => rfl
      simp only [Act.put, List.setIfInBounds_toArray, List.set_cons_zero, List.set_cons_succ]
      refine take_ (oi := ?oi50) (i := 22) (N := some 25) (v := undef) ?hi50 (by kernel_rfl) (by kernel_rfl) (by kernel_rfl) ?hQ50 ?hN50 (Or.inr ⟨?hw50, rfl⟩) (by assumption) ?rest50
      case hi50 => simp only [List.getElem?_toArray, List.getElem?_cons_zero, List.getElem?_cons_succ]; rfl
      case hQ50 => exact fun _ _ _ h => h
      case hN50 => rfl
      case hw50 => rfl
      simp only [Act.put, List.setIfInBounds_toArray, List.set_cons_zero, List.set_cons_succ]
      refine take_ (oi := ?oi51) (i := 23) (N := some 26) (v := undef) ?hi51 (by kernel_rfl) (by kernel_rfl) (by kernel_rfl) ?hQ51 ?hN51 (Or.inr ⟨?hw51, rfl⟩) (by assumption) ?rest51
      case hi51 => simp only [List.getElem?_toArray, List.getElem?_cons_zero, List.getElem?_cons_succ]; rfl
      case hQ51 => exact fun _ _ _ h => h
      case hN51 => rfl
      case hw51 => rfl
      simp only [Act.put, List.setIfInBounds_toArray, List.set_cons_zero, List.set_cons_succ]
      refine take_ (oi := ?oi52) (i := 24) (N := some 27) (v := undef) ?hi52 (by kernel_rfl) (by kernel_rfl) (by kernel_rfl) ?hQ52 ?hN52 (Or.inr ⟨?hw52, rfl⟩) (by assumption) ?rest52
      case hi52 => simp only [List.getElem?_toArray, List.getElem?_cons_zero, List.getElem?_cons_succ]; rfl
      case hQ52 => exact fun _ _ _ h => h
      case hN52 => rfl
      case hw52 => rfl
      simp only [Act.put, List.setIfInBounds_toArray, List.set_cons_zero, List.set_cons_succ]
      refine take_ (oi := ?oi53) (i := 25) (N := some 28) (v := ?v53) ?hi53 (by kernel_rfl) (by kernel_rfl) (by kernel_rfl) ?hQ53 ?hN53 (Or.inl ⟨?hw53, ?hy53⟩) (by assumption) ?rest53
      case hi53 => simp only [List.getElem?_toArray, List.getElem?_cons_zero, List.getElem?_cons_succ]; rfl
      case hQ53 => exact fun _ _ _ h => h
      case hN53 => rfl
      case hw53 => rfl
      case hy53 => intro W hSw; (try dsimp only at hSw); go_split_ands; go_simp; (try with_reducible rfl)
      simp only [Act.put, List.setIfInBounds_toArray, List.set_cons_zero, List.set_cons_succ]
      refine take_ (oi := ?oi54) (i := 26) (N := some 2) (v := ?v54) ?hi54 (by kernel_rfl) (by kernel_rfl) (by kernel_rfl) ?hQ54 ?hN54 (Or.inl ⟨?hw54, ?hy54⟩) (by assumption) ?rest54
      case hi54 => simp only [List.getElem?_toArray, List.getElem?_cons_zero, List.getElem?_cons_succ]; rfl
      case hQ54 => exact fun _ _ _ h => h
      case hN54 => rfl
      case hw54 => rfl
      case hy54 => intro W hSw; (try dsimp only at hSw); go_split_ands; go_simp; (try with_reducible rfl)
      simp only [Act.put, List.setIfInBounds_toArray, List.set_cons_zero, List.set_cons_succ]
      refine wpAnyH_done (by kernel_rfl) ?_ _
      refine NoPanic.normal ?_
      go_wp2
      go_ret
      go_split_ands
      exact ⟨rfl, by assumption⟩
    case false =>
      cases c0
      case true =>
        go_enter Tryz.func9, Tryz.ntmps9
        go_wp2
        refine wp_region_noPanic ?_
        refine wp_region_held_drew (S := fun W => W.cell? ⟨w.heap.size, 0, none⟩ = some (.float .f64 b0) ∧ W.cell? ⟨w.heap.size, 1, none⟩ = some (.float .f64 b1) ∧ Below w.heap.size w W) (by kernel_rfl) ?_ (fun hHeld => ?_)
        · (first | (go_split_ands; refine ⟨?_, ?_, ?_⟩ <;> assumption) | (go_split_ands; exact ⟨pw_cell_below hb (by assumption), pw_cell_below hb (by assumption), below_step (by assumption) hb⟩) | (refine ⟨?_, ?_, ?_⟩; (iterate 2 (focus (first | assumption | (simp [go_sem]; done) | (simp [go_sem, *]; done)))); repeat (first | (with_reducible exact Below.refl _ _) | (with_reducible apply below_drew) | (with_reducible apply below_alloc))))
        refine take_ (oi := ?oi55) (i := 0) (N := some 3) (v := ?v55) ?hi55 (by kernel_rfl) (by kernel_rfl) (by kernel_rfl) ?hQ55 ?hN55 (Or.inl ⟨?hw55, ?hy55⟩) (by assumption) ?rest55
        case hi55 => simp only [List.getElem?_toArray, List.getElem?_cons_zero, List.getElem?_cons_succ]; rfl
        case hQ55 => exact fun _ _ _ h => h
        case hN55 => rfl
        case hw55 => rfl
        case hy55 => intro W hSw; (try dsimp only at hSw); go_split_ands; go_simp; (try with_reducible rfl)
        simp only [Act.put, List.setIfInBounds_toArray, List.set_cons_zero, List.set_cons_succ]
        refine take_ (oi := ?oi56) (i := 1) (N := some 4) (v := ?v56) ?hi56 (by kernel_rfl) (by kernel_rfl) (by kernel_rfl) ?hQ56 ?hN56 (Or.inl ⟨?hw56, ?hy56⟩) (by assumption) ?rest56
        case hi56 => simp only [List.getElem?_toArray, List.getElem?_cons_zero, List.getElem?_cons_succ]; rfl
        case hQ56 => exact fun _ _ _ h => h
        case hN56 => rfl
        case hw56 => rfl
        case hy56 => intro W hSw; (try dsimp only at hSw); go_split_ands; go_simp; (try with_reducible rfl)
        simp only [Act.put, List.setIfInBounds_toArray, List.set_cons_zero, List.set_cons_succ]
        refine take_ (oi := ?oi57) (i := 2) (N := some 5) (v := ?v57) ?hi57 (by kernel_rfl) (by kernel_rfl) (by kernel_rfl) ?hQ57 ?hN57 (Or.inl ⟨?hw57, ?hy57⟩) (by assumption) ?rest57
        case hi57 => simp only [List.getElem?_toArray, List.getElem?_cons_zero, List.getElem?_cons_succ]; rfl
        case hQ57 => exact fun _ _ _ h => h
        case hN57 => rfl
        case hw57 => rfl
        case hy57 => intro W hSw; (try dsimp only at hSw); go_split_ands; go_simp; (try with_reducible rfl)
        simp only [Act.put, List.setIfInBounds_toArray, List.set_cons_zero, List.set_cons_succ]
        refine take_ (oi := ?oi58) (i := 3) (N := some 6) (v := ?v58) ?hi58 (by kernel_rfl) (by kernel_rfl) (by kernel_rfl) ?hQ58 ?hN58 (Or.inl ⟨?hw58, ?hy58⟩) (by assumption) ?rest58
        case hi58 => simp only [List.getElem?_toArray, List.getElem?_cons_zero, List.getElem?_cons_succ]; rfl
        case hQ58 => exact fun _ _ _ h => h
        case hN58 => rfl
        case hw58 => rfl
        case hy58 => intro W hSw; (try dsimp only at hSw); go_split_ands; go_simp; (try with_reducible rfl)
        simp only [Act.put, List.setIfInBounds_toArray, List.set_cons_zero, List.set_cons_succ]
        refine wpAnyH_ready (rs := [4]) (by kernel_rfl) (by simp) ?_
        refine AllReadyH.cons (o := ?oi59) ?hi59 (fun K hK => ?step59) AllReadyH.nil
        case hi59 => simp only [List.getElem?_toArray, List.getElem?_cons_zero, List.getElem?_cons_succ]; rfl
        refine goes_ (N := some 7) Tryz.func10 (by kernel_rfl) rfl #[.float .f64 b0] (by rfl) rfl rfl (by (try simp only [List.map_toArray, List.map_cons, List.map_nil]); rfl) ?_
        refine (M1.out _).mono ?_
        rintro e v4 ⟨t4, rfl, hq4, hb⟩
        refine ⟨_, rfl, ?_⟩
        refine hK.out _ _ ?_ (fun hHeld => ?_)
        · (first | (go_split_ands; refine ⟨?_, ?_, ?_⟩ <;> assumption) | (go_split_ands; exact ⟨pw_cell_below hb (by assumption), pw_cell_below hb (by assumption), below_step (by assumption) hb⟩) | (refine ⟨?_, ?_, ?_⟩; (iterate 2 (focus (first | assumption | (simp [go_sem]; done) | (simp [go_sem, *]; done)))); repeat (first | (with_reducible exact Below.refl _ _) | (with_reducible apply below_drew) | (with_reducible apply below_alloc))))
        clear hK K
        simp only [Act.put, List.setIfInBounds_toArray, List.set_cons_zero, List.set_cons_succ]
        refine take_ (oi := ?oi60) (i := 5) (N := some 8) (v := ?v60) ?hi60 (by kernel_rfl) (by kernel_rfl) (by kernel_rfl) ?hQ60 ?hN60 (Or.inl ⟨?hw60, ?hy60⟩) (by assumption) ?rest60
        case hi60 => simp only [List.getElem?_toArray, List.getElem?_cons_zero, List.getElem?_cons_succ]; rfl
        case hQ60 => exact fun _ _ _ h => h
        case hN60 => rfl
        case hw60 => rfl
        case hy60 => intro W hSw; (try dsimp only at hSw); go_split_ands; go_simp; (try with_reducible rfl)
        simp only [Act.put, List.setIfInBounds_toArray, List.set_cons_zero, List.set_cons_succ]
        refine take_ (oi := ?oi61) (i := 6) (N := some 9) (v := ?v61) ?hi61 (by kernel_rfl) (by kernel_rfl) (by kernel_rfl) ?hQ61 ?hN61 (Or.inl ⟨?hw61, ?hy61⟩) (by assumption) ?rest61
        case hi61 => simp only [List.getElem?_toArray, List.getElem?_cons_zero, List.getElem?_cons_succ]; rfl
        case hQ61 => exact fun _ _ _ h => h
        case hN61 => rfl
        case hw61 => rfl
        case hy61 => intro W hSw; (try dsimp only at hSw); go_split_ands; go_simp; (try with_reducible rfl)
        simp only [Act.put, List.setIfInBounds_toArray, List.set_cons_zero, List.set_cons_succ]
        refine take_ (oi := ?oi62) (i := 7) (N := some 10) (v := ?v62) ?hi62 (by kernel_rfl) (by kernel_rfl) (by kernel_rfl) ?hQ62 ?hN62 (Or.inl ⟨?hw62, ?hy62⟩) (by assumption) ?rest62
        case hi62 => simp only [List.getElem?_toArray, List.getElem?_cons_zero, List.getElem?_cons_succ]; rfl
        case hQ62 => exact fun _ _ _ h => h
        case hN62 => rfl
        case hw62 => rfl
        case hy62 => intro W hSw; (try dsimp only at hSw); go_split_ands; go_simp; (try with_reducible rfl)
        simp only [Act.put, List.setIfInBounds_toArray, List.set_cons_zero, List.set_cons_succ]
        refine take_ (oi := ?oi63) (i := 8) (N := some 11) (v := ?v63) ?hi63 (by kernel_rfl) (by kernel_rfl) (by kernel_rfl) ?hQ63 ?hN63 (Or.inl ⟨?hw63, ?hy63⟩) (by assumption) ?rest63
        case hi63 => simp only [List.getElem?_toArray, List.getElem?_cons_zero, List.getElem?_cons_succ]; rfl
        case hQ63 => exact fun _ _ _ h => h
        case hN63 => rfl
        case hw63 => rfl
        case hy63 => intro W hSw; (try dsimp only at hSw); go_split_ands; go_simp; (try with_reducible rfl)
        simp only [Act.put, List.setIfInBounds_toArray, List.set_cons_zero, List.set_cons_succ]
        refine take_ (oi := ?oi64) (i := 9) (N := some 12) (v := ?v64) ?hi64 (by kernel_rfl) (by kernel_rfl) (by kernel_rfl) ?hQ64 ?hN64 (Or.inl ⟨?hw64, ?hy64⟩) (by assumption) ?rest64
        case hi64 => simp only [List.getElem?_toArray, List.getElem?_cons_zero, List.getElem?_cons_succ]; rfl
        case hQ64 => exact fun _ _ _ h => h
        case hN64 => rfl
        case hw64 => rfl
        case hy64 => intro W hSw; (try dsimp only at hSw); go_split_ands; go_simp; (try with_reducible rfl)
        simp only [Act.put, List.setIfInBounds_toArray, List.set_cons_zero, List.set_cons_succ]
        refine take_ (oi := ?oi65) (i := 10) (N := some 13) (v := ?v65) ?hi65 (by kernel_rfl) (by kernel_rfl) (by kernel_rfl) ?hQ65 ?hN65 (Or.inl ⟨?hw65, ?hy65⟩) (by assumption) ?rest65
        case hi65 => simp only [List.getElem?_toArray, List.getElem?_cons_zero, List.getElem?_cons_succ]; rfl
        case hQ65 => exact fun _ _ _ h => h
        case hN65 => rfl
        case hw65 => rfl
        case hy65 => intro W hSw; (try dsimp only at hSw); go_split_ands; go_simp; (try with_reducible rfl)
        simp only [Act.put, List.setIfInBounds_toArray, List.set_cons_zero, List.set_cons_succ]
        refine wpAnyH_ready (rs := [11]) (by kernel_rfl) (by simp) ?_
        refine AllReadyH.cons (o := ?oi66) ?hi66 (fun K hK => ?step66) AllReadyH.nil
        case hi66 => simp only [List.getElem?_toArray, List.getElem?_cons_zero, List.getElem?_cons_succ]; rfl
        refine goes_ (N := some 14) Tryz.func10 (by kernel_rfl) rfl #[.float .f64 b1] (by rfl) rfl rfl (by (try simp only [List.map_toArray, List.map_cons, List.map_nil]); rfl) ?_
        refine (M2.out _).mono ?_
        rintro e v11 ⟨t11, rfl, hq11, hb⟩
        refine ⟨_, rfl, ?_⟩
        refine hK.out _ _ ?_ (fun hHeld => ?_)
        · (first | (go_split_ands; refine ⟨?_, ?_, ?_⟩ <;> assumption) | (go_split_ands; exact ⟨pw_cell_below hb (by assumption), pw_cell_below hb (by assumption), below_step (by assumption) hb⟩) | (refine ⟨?_, ?_, ?_⟩; (iterate 2 (focus (first | assumption | (simp [go_sem]; done) | (simp [go_sem, *]; done)))); repeat (first | (with_reducible exact Below.refl _ _) | (with_reducible apply below_drew) | (with_reducible apply below_alloc))))
        clear hK K
        simp only [Act.put, List.setIfInBounds_toArray, List.set_cons_zero, List.set_cons_succ]
        refine take_ (oi := ?oi67) (i := 12) (N := some 15) (v := ?v67) ?hi67 (by kernel_rfl) (by kernel_rfl) (by kernel_rfl) ?hQ67 ?hN67 (Or.inl ⟨?hw67, ?hy67⟩) (by assumption) ?rest67
        case hi67 => simp only [List.getElem?_toArray, List.getElem?_cons_zero, List.getElem?_cons_succ]; rfl
        case hQ67 => exact fun _ _ _ h => h
        case hN67 => rfl
        case hw67 => rfl
        case hy67 => intro W hSw; (try dsimp only at hSw); go_split_ands; go_simp; (try with_reducible rfl)
        simp only [Act.put, List.setIfInBounds_toArray, List.set_cons_zero, List.set_cons_succ]
        refine take_ (oi := ?oi68) (i := 13) (N := some 16) (v := ?v68) ?hi68 (by kernel_rfl) (by kernel_rfl) (by kernel_rfl) ?hQ68 ?hN68 (Or.inl ⟨?hw68, ?hy68⟩) (by assumption) ?rest68
        case hi68 => simp only [List.getElem?_toArray, List.getElem?_cons_zero, List.getElem?_cons_succ]; rfl
        case hQ68 => exact fun _ _ _ h => h
        case hN68 => rfl
        case hw68 => rfl
        case hy68 => intro W hSw; (try dsimp only at hSw); go_split_ands; go_simp; (try with_reducible rfl)
        simp only [Act.put, List.setIfInBounds_toArray, List.set_cons_zero, List.set_cons_succ]
        refine take_ (oi := ?oi69) (i := 14) (N := some 17) (v := ?v69) ?hi69 (by kernel_rfl) (by kernel_rfl) (by kernel_rfl) ?hQ69 ?hN69 (Or.inl ⟨?hw69, ?hy69⟩) (by assumption) ?rest69
        case hi69 => simp only [List.getElem?_toArray, List.getElem?_cons_zero, List.getElem?_cons_succ]; rfl
        case hQ69 => exact fun _ _ _ h => h
        case hN69 => rfl
        case hw69 => rfl
        case hy69 => intro W hSw; (try dsimp only at hSw); go_split_ands; go_simp; (try with_reducible rfl)
        simp only [Act.put, List.setIfInBounds_toArray, List.set_cons_zero, List.set_cons_succ]
        refine take_ (oi := ?oi70) (i := 15) (N := some 18) (v := ?v70) ?hi70 (by kernel_rfl) (by kernel_rfl) (by kernel_rfl) ?hQ70 ?hN70 (Or.inl ⟨?hw70, ?hy70⟩) (by assumption) ?rest70
        case hi70 => simp only [List.getElem?_toArray, List.getElem?_cons_zero, List.getElem?_cons_succ]; rfl
        case hQ70 => exact fun _ _ _ h => h
        case hN70 => rfl
        case hw70 => rfl
        case hy70 => intro W hSw; (try dsimp only at hSw); go_split_ands; go_simp; (try with_reducible rfl)
        simp only [Act.put, List.setIfInBounds_toArray, List.set_cons_zero, List.set_cons_succ]
        refine take_ (oi := ?oi71) (i := 16) (N := some 19) (v := ?v71) ?hi71 (by kernel_rfl) (by kernel_rfl) (by kernel_rfl) ?hQ71 ?hN71 (Or.inl ⟨?hw71, ?hy71⟩) (by assumption) ?rest71
        case hi71 => simp only [List.getElem?_toArray, List.getElem?_cons_zero, List.getElem?_cons_succ]; rfl
        case hQ71 => exact fun _ _ _ h => h
        case hN71 => rfl
        case hw71 => rfl
        case hy71 => intro W hSw; (try dsimp only at hSw); go_split_ands; go_simp; (try with_reducible rfl)
        simp only [Act.put, List.setIfInBounds_toArray, List.set_cons_zero, List.set_cons_succ]
        refine wpAnyH_ready (rs := [17]) (by kernel_rfl) (by simp) ?_
        refine AllReadyH.cons (o := ?oi72) ?hi72 (fun K hK => ?step72) AllReadyH.nil
        case hi72 => simp only [List.getElem?_toArray, List.getElem?_cons_zero, List.getElem?_cons_succ]; rfl
        refine goes_ (N := some 20) Tryz.func11 (by kernel_rfl) rfl #[.float .f64 b0] (by rfl) rfl rfl (by (try simp only [List.map_toArray, List.map_cons, List.map_nil]); rfl) ?_
        refine (M3.out _).mono ?_
        rintro e v17 ⟨rfl, hb⟩
        refine ⟨_, rfl, ?_⟩
        refine hK.out _ _ ?_ (fun hHeld => ?_)
        · (first | (go_split_ands; refine ⟨?_, ?_, ?_⟩ <;> assumption) | (go_split_ands; exact ⟨pw_cell_below hb (by assumption), pw_cell_below hb (by assumption), below_step (by assumption) hb⟩) | (refine ⟨?_, ?_, ?_⟩; (iterate 2 (focus (first | assumption | (simp [go_sem]; done) | (simp [go_sem, *]; done)))); repeat (first | (with_reducible exact Below.refl _ _) | (with_reducible apply below_drew) | (with_reducible apply below_alloc))))
        clear hK K
        simp only [Act.put, List.setIfInBounds_toArray, List.set_cons_zero, List.set_cons_succ]
        refine take_ (oi := ?oi73) (i := 18) (N := some 21) (v := ?v73) ?hi73 (by kernel_rfl) (by kernel_rfl) (by kernel_rfl) ?hQ73 ?hN73 (Or.inl ⟨?hw73, ?hy73⟩) (by assumption) ?rest73
        case hi73 => simp only [List.getElem?_toArray, List.getElem?_cons_zero, List.getElem?_cons_succ]; rfl
        case hQ73 => exact fun _ _ _ h => h
        case hN73 => rfl
        case hw73 => rfl
        case hy73 => intro W hSw; (try dsimp only at hSw); go_split_ands; go_simp; (try with_reducible rfl)
        simp only [Act.put, List.setIfInBounds_toArray, List.set_cons_zero, List.set_cons_succ]
        refine take_ (oi := ?oi74) (i := 19) (N := some 22) (v := ?v74) ?hi74 (by kernel_rfl) (by kernel_rfl) (by kernel_rfl) ?hQ74 ?hN74 (Or.inl ⟨?hw74, ?hy74⟩) (by assumption) ?rest74
        case hi74 => simp only [List.getElem?_toArray, List.getElem?_cons_zero, List.getElem?_cons_succ]; rfl
        case hQ74 => exact fun _ _ _ h => h
        case hN74 => rfl
        case hw74 => rfl
        case hy74 => intro W hSw; (try dsimp only at hSw); go_split_ands; go_simp; (try with_reducible rfl)
        simp only [Act.put, List.setIfInBounds_toArray, List.set_cons_zero, List.set_cons_succ]
        refine take_ (oi := ?oi75) (i := 20) (N := some 23) (v := ?v75) ?hi75 (by kernel_rfl) (by kernel_rfl) (by kernel_rfl) ?hQ75 ?hN75 (Or.inl ⟨?hw75, ?hy75⟩) (by assumption) ?rest75
        case hi75 => simp only [List.getElem?_toArray, List.getElem?_cons_zero, List.getElem?_cons_succ]; rfl
        case hQ75 => exact fun _ _ _ h => h
        case hN75 => rfl
        case hw75 => rfl
        case hy75 => intro W hSw; (try dsimp only at hSw); go_split_ands; go_simp; (try with_reducible rfl)
        simp only [Act.put, List.setIfInBounds_toArray, List.set_cons_zero, List.set_cons_succ]
        refine take_ (oi := ?oi76) (i := 21) (N := some 24) (v := undef) ?hi76 (by kernel_rfl) (by kernel_rfl) (by kernel_rfl) ?hQ76 ?hN76 (Or.inr ⟨?hw76, rfl⟩) (by assumption) ?rest76
        case hi76 => simp only [List.getElem?_toArray, List.getElem?_cons_zero, List.getElem?_cons_succ]; rfl
        case hQ76 => exact fun _ _ _ h => h
        case hN76 => rfl
        case hw76 => rfl
        simp only [Act.put, List.setIfInBounds_toArray, List.set_cons_zero, List.set_cons_succ]
        refine take_ (oi := ?oi77) (i := 22) (N := some 25) (v := undef) ?hi77 (by kernel_rfl) (by kernel_rfl) (by kernel_rfl) ?hQ77 ?hN77 (Or.inr ⟨?hw77, rfl⟩) (by assumption) ?rest77
        case hi77 => simp only [List.getElem?_toArray, List.getElem?_cons_zero, List.getElem?_cons_succ]; rfl
        case hQ77 => exact fun _ _ _ h => h
        case hN77 => rfl
        case hw77 => rfl
        simp only [Act.put, List.setIfInBounds_toArray, List.set_cons_zero, List.set_cons_succ]
        refine take_ (oi := ?oi78) (i := 23) (N := some 26) (v := undef) ?hi78 (by kernel_rfl) (by kernel_rfl) (by kernel_rfl) ?hQ78 ?hN78 (Or.inr ⟨?hw78, rfl⟩) (by assumption) ?rest78
        case hi78 => simp only [List.getElem?_toArray, List.getElem?_cons_zero, List.getElem?_cons_succ]; rfl
        case hQ78 => exact fun _ _ _ h => h
        case hN78 => rfl
        case hw78 => rfl
        simp only [Act.put, List.setIfInBounds_toArray, List.set_cons_zero, List.set_cons_succ]
        refine take_ (oi := ?oi79) (i := 24) (N := some 27) (v := undef) ?hi79 (by kernel_rfl) (by kernel_rfl) (by kernel_rfl) ?hQ79 ?hN79 (Or.inr ⟨?hw79, rfl⟩) (by assumption) ?rest79
        case hi79 => simp only [List.getElem?_toArray, List.getElem?_cons_zero, List.getElem?_cons_succ]; rfl
        case hQ79 => exact fun _ _ _ h => h
        case hN79 => rfl
        case hw79 => rfl
        simp only [Act.put, List.setIfInBounds_toArray, List.set_cons_zero, List.set_cons_succ]
        refine take_ (oi := ?oi80) (i := 25) (N := some 28) (v := ?v80) ?hi80 (by kernel_rfl) (by kernel_rfl) (by kernel_rfl) ?hQ80 ?hN80 (Or.inl ⟨?hw80, ?hy80⟩) (by assumption) ?rest80
        case hi80 => simp only [List.getElem?_toArray, List.getElem?_cons_zero, List.getElem?_cons_succ]; rfl
        case hQ80 => exact fun _ _ _ h => h
        case hN80 => rfl
        case hw80 => rfl
        case hy80 => intro W hSw; (try dsimp only at hSw); go_split_ands; go_simp; (try with_reducible rfl)
        simp only [Act.put, List.setIfInBounds_toArray, List.set_cons_zero, List.set_cons_succ]
        refine take_ (oi := ?oi81) (i := 26) (N := some 2) (v := ?v81) ?hi81 (by kernel_rfl) (by kernel_rfl) (by kernel_rfl) ?hQ81 ?hN81 (Or.inl ⟨?hw81, ?hy81⟩) (by assumption) ?rest81
        case hi81 => simp only [List.getElem?_toArray, List.getElem?_cons_zero, List.getElem?_cons_succ]; rfl
        case hQ81 => exact fun _ _ _ h => h
        case hN81 => rfl
        case hw81 => rfl
        case hy81 => intro W hSw; (try dsimp only at hSw); go_split_ands; go_simp; (try with_reducible rfl)
        simp only [Act.put, List.setIfInBounds_toArray, List.set_cons_zero, List.set_cons_succ]
        refine wpAnyH_done (by kernel_rfl) ?_ _
        refine NoPanic.normal ?_
        go_wp2
        go_ret
        go_split_ands
        exact ⟨rfl, by assumption⟩
      case false =>
        go_enter Tryz.func9, Tryz.ntmps9
        go_wp2
        refine wp_region_noPanic ?_
        refine wp_region_held_drew (S := fun W => W.cell? ⟨w.heap.size, 0, none⟩ = some (.float .f64 b0) ∧ W.cell? ⟨w.heap.size, 1, none⟩ = some (.float .f64 b1) ∧ Below w.heap.size w W) (by kernel_rfl) ?_ (fun hHeld => ?_)
        · (first | (go_split_ands; refine ⟨?_, ?_, ?_⟩ <;> assumption) | (go_split_ands; exact ⟨pw_cell_below hb (by assumption), pw_cell_below hb (by assumption), below_step (by assumption) hb⟩) | (refine ⟨?_, ?_, ?_⟩; (iterate 2 (focus (first | assumption | (simp [go_sem]; done) | (simp [go_sem, *]; done)))); repeat (first | (with_reducible exact Below.refl _ _) | (with_reducible apply below_drew) | (with_reducible apply below_alloc))))
        refine take_ (oi := ?oi82) (i := 0) (N := some 3) (v := ?v82) ?hi82 (by kernel_rfl) (by kernel_rfl) (by kernel_rfl) ?hQ82 ?hN82 (Or.inl ⟨?hw82, ?hy82⟩) (by assumption) ?rest82
        case hi82 => simp only [List.getElem?_toArray, List.getElem?_cons_zero, List.getElem?_cons_succ]; rfl
        case hQ82 => exact fun _ _ _ h => h
        case hN82 => rfl
        case hw82 => rfl
        case hy82 => intro W hSw; (try dsimp only at hSw); go_split_ands; go_simp; (try with_reducible rfl)
        simp only [Act.put, List.setIfInBounds_toArray, List.set_cons_zero, List.set_cons_succ]
        refine take_ (oi := ?oi83) (i := 1) (N := some 4) (v := ?v83) ?hi83 (by kernel_rfl) (by kernel_rfl) (by kernel_rfl) ?hQ83 ?hN83 (Or.inl ⟨?hw83, ?hy83⟩) (by assumption) ?rest83
        case hi83 => simp only [List.getElem?_toArray, List.getElem?_cons_zero, List.getElem?_cons_succ]; rfl
        case hQ83 => exact fun _ _ _ h => h
        case hN83 => rfl
        case hw83 => rfl
        case hy83 => intro W hSw; (try dsimp only at hSw); go_split_ands; go_simp; (try with_reducible rfl)
        simp only [Act.put, List.setIfInBounds_toArray, List.set_cons_zero, List.set_cons_succ]
        refine take_ (oi := ?oi84) (i := 2) (N := some 5) (v := ?v84) ?hi84 (by kernel_rfl) (by kernel_rfl) (by kernel_rfl) ?hQ84 ?hN84 (Or.inl ⟨?hw84, ?hy84⟩) (by assumption) ?rest84
        case hi84 => simp only [List.getElem?_toArray, List.getElem?_cons_zero, List.getElem?_cons_succ]; rfl
        case hQ84 => exact fun _ _ _ h => h
        case hN84 => rfl
        case hw84 => rfl
        case hy84 => intro W hSw; (try dsimp only at hSw); go_split_ands; go_simp; (try with_reducible rfl)
        simp only [Act.put, List.setIfInBounds_toArray, List.set_cons_zero, List.set_cons_succ]
        refine take_ (oi := ?oi85) (i := 3) (N := some 6) (v := ?v85) ?hi85 (by kernel_rfl) (by kernel_rfl) (by kernel_rfl) ?hQ85 ?hN85 (Or.inl ⟨?hw85, ?hy85⟩) (by assumption) ?rest85
        case hi85 => simp only [List.getElem?_toArray, List.getElem?_cons_zero, List.getElem?_cons_succ]; rfl
        case hQ85 => exact fun _ _ _ h => h
        case hN85 => rfl
        case hw85 => rfl
        case hy85 => intro W hSw; (try dsimp only at hSw); go_split_ands; go_simp; (try with_reducible rfl)
        simp only [Act.put, List.setIfInBounds_toArray, List.set_cons_zero, List.set_cons_succ]
        refine wpAnyH_ready (rs := [4]) (by kernel_rfl) (by simp) ?_
        refine AllReadyH.cons (o := ?oi86) ?hi86 (fun K hK => ?step86) AllReadyH.nil
        case hi86 => simp only [List.getElem?_toArray, List.getElem?_cons_zero, List.getElem?_cons_succ]; rfl
        refine goes_ (N := some 7) Tryz.func10 (by kernel_rfl) rfl #[.float .f64 b0] (by rfl) rfl rfl (by (try simp only [List.map_toArray, List.map_cons, List.map_nil]); rfl) ?_
        refine (M1.out _).mono ?_
        rintro e v4 ⟨t4, rfl, hq4, hb⟩
        refine ⟨_, rfl, ?_⟩
        refine hK.out _ _ ?_ (fun hHeld => ?_)
        · (first | (go_split_ands; refine ⟨?_, ?_, ?_⟩ <;> assumption) | (go_split_ands; exact ⟨pw_cell_below hb (by assumption), pw_cell_below hb (by assumption), below_step (by assumption) hb⟩) | (refine ⟨?_, ?_, ?_⟩; (iterate 2 (focus (first | assumption | (simp [go_sem]; done) | (simp [go_sem, *]; done)))); repeat (first | (with_reducible exact Below.refl _ _) | (with_reducible apply below_drew) | (with_reducible apply below_alloc))))
        clear hK K
        simp only [Act.put, List.setIfInBounds_toArray, List.set_cons_zero, List.set_cons_succ]
        refine take_ (oi := ?oi87) (i := 5) (N := some 8) (v := ?v87) ?hi87 (by kernel_rfl) (by kernel_rfl) (by kernel_rfl) ?hQ87 ?hN87 (Or.inl ⟨?hw87, ?hy87⟩) (by assumption) ?rest87
        case hi87 => simp only [List.getElem?_toArray, List.getElem?_cons_zero, List.getElem?_cons_succ]; rfl
        case hQ87 => exact fun _ _ _ h => h
        case hN87 => rfl
        case hw87 => rfl
        case hy87 => intro W hSw; (try dsimp only at hSw); go_split_ands; go_simp; (try with_reducible rfl)
        simp only [Act.put, List.setIfInBounds_toArray, List.set_cons_zero, List.set_cons_succ]
        refine take_ (oi := ?oi88) (i := 6) (N := some 9) (v := ?v88) ?hi88 (by kernel_rfl) (by kernel_rfl) (by kernel_rfl) ?hQ88 ?hN88 (Or.inl ⟨?hw88, ?hy88⟩) (by assumption) ?rest88
        case hi88 => simp only [List.getElem?_toArray, List.getElem?_cons_zero, List.getElem?_cons_succ]; rfl
        case hQ88 => exact fun _ _ _ h => h
        case hN88 => rfl
        case hw88 => rfl
        case hy88 => intro W hSw; (try dsimp only at hSw); go_split_ands; go_simp; (try with_reducible rfl)
        simp only [Act.put, List.setIfInBounds_toArray, List.set_cons_zero, List.set_cons_succ]
        refine take_ (oi := ?oi89) (i := 7) (N := some 10) (v := ?v89) ?hi89 (by kernel_rfl) (by kernel_rfl) (by kernel_rfl) ?hQ89 ?hN89 (Or.inl ⟨?hw89, ?hy89⟩) (by assumption) ?rest89
        case hi89 => simp only [List.getElem?_toArray, List.getElem?_cons_zero, List.getElem?_cons_succ]; rfl
        case hQ89 => exact fun _ _ _ h => h
        case hN89 => rfl
        case hw89 => rfl
        case hy89 => intro W hSw; (try dsimp only at hSw); go_split_ands; go_simp; (try with_reducible rfl)
        simp only [Act.put, List.setIfInBounds_toArray, List.set_cons_zero, List.set_cons_succ]
        refine take_ (oi := ?oi90) (i := 8) (N := some 11) (v := ?v90) ?hi90 (by kernel_rfl) (by kernel_rfl) (by kernel_rfl) ?hQ90 ?hN90 (Or.inl ⟨?hw90, ?hy90⟩) (by assumption) ?rest90
        case hi90 => simp only [List.getElem?_toArray, List.getElem?_cons_zero, List.getElem?_cons_succ]; rfl
        case hQ90 => exact fun _ _ _ h => h
        case hN90 => rfl
        case hw90 => rfl
        case hy90 => intro W hSw; (try dsimp only at hSw); go_split_ands; go_simp; (try with_reducible rfl)
        simp only [Act.put, List.setIfInBounds_toArray, List.set_cons_zero, List.set_cons_succ]
        refine take_ (oi := ?oi91) (i := 9) (N := some 12) (v := ?v91) ?hi91 (by kernel_rfl) (by kernel_rfl) (by kernel_rfl) ?hQ91 ?hN91 (Or.inl ⟨?hw91, ?hy91⟩) (by assumption) ?rest91
        case hi91 => simp only [List.getElem?_toArray, List.getElem?_cons_zero, List.getElem?_cons_succ]; rfl
        case hQ91 => exact fun _ _ _ h => h
        case hN91 => rfl
        case hw91 => rfl
        case hy91 => intro W hSw; (try dsimp only at hSw); go_split_ands; go_simp; (try with_reducible rfl)
        simp only [Act.put, List.setIfInBounds_toArray, List.set_cons_zero, List.set_cons_succ]
        refine take_ (oi := ?oi92) (i := 10) (N := some 13) (v := ?v92) ?hi92 (by kernel_rfl) (by kernel_rfl) (by kernel_rfl) ?hQ92 ?hN92 (Or.inl ⟨?hw92, ?hy92⟩) (by assumption) ?rest92
        case hi92 => simp only [List.getElem?_toArray, List.getElem?_cons_zero, List.getElem?_cons_succ]; rfl
        case hQ92 => exact fun _ _ _ h => h
        case hN92 => rfl
        case hw92 => rfl
        case hy92 => intro W hSw; (try dsimp only at hSw); go_split_ands; go_simp; (try with_reducible rfl)
        simp only [Act.put, List.setIfInBounds_toArray, List.set_cons_zero, List.set_cons_succ]
        refine wpAnyH_ready (rs := [11]) (by kernel_rfl) (by simp) ?_
        refine AllReadyH.cons (o := ?oi93) ?hi93 (fun K hK => ?step93) AllReadyH.nil
        case hi93 => simp only [List.getElem?_toArray, List.getElem?_cons_zero, List.getElem?_cons_succ]; rfl
        refine goes_ (N := some 14) Tryz.func10 (by kernel_rfl) rfl #[.float .f64 b1] (by rfl) rfl rfl (by (try simp only [List.map_toArray, List.map_cons, List.map_nil]); rfl) ?_
        refine (M2.out _).mono ?_
        rintro e v11 ⟨t11, rfl, hq11, hb⟩
        refine ⟨_, rfl, ?_⟩
        refine hK.out _ _ ?_ (fun hHeld => ?_)
        · (first | (go_split_ands; refine ⟨?_, ?_, ?_⟩ <;> assumption) | (go_split_ands; exact ⟨pw_cell_below hb (by assumption), pw_cell_below hb (by assumption), below_step (by assumption) hb⟩) | (refine ⟨?_, ?_, ?_⟩; (iterate 2 (focus (first | assumption | (simp [go_sem]; done) | (simp [go_sem, *]; done)))); repeat (first | (with_reducible exact Below.refl _ _) | (with_reducible apply below_drew) | (with_reducible apply below_alloc))))
        clear hK K
        simp only [Act.put, List.setIfInBounds_toArray, List.set_cons_zero, List.set_cons_succ]
        refine take_ (oi := ?oi94) (i := 12) (N := some 15) (v := ?v94) ?hi94 (by kernel_rfl) (by kernel_rfl) (by kernel_rfl) ?hQ94 ?hN94 (Or.inl ⟨?hw94, ?hy94⟩) (by assumption) ?rest94
        case hi94 => simp only [List.getElem?_toArray, List.getElem?_cons_zero, List.getElem?_cons_succ]; rfl
        case hQ94 => exact fun _ _ _ h => h
        case hN94 => rfl
        case hw94 => rfl
        case hy94 => intro W hSw; (try dsimp only at hSw); go_split_ands; go_simp; (try with_reducible rfl)
        simp only [Act.put, List.setIfInBounds_toArray, List.set_cons_zero, List.set_cons_succ]
        refine take_ (oi := ?oi95) (i := 13) (N := some 16) (v := ?v95) ?hi95 (by kernel_rfl) (by kernel_rfl) (by kernel_rfl) ?hQ95 ?hN95 (Or.inl ⟨?hw95, ?hy95⟩) (by assumption) ?rest95
        case hi95 => simp only [List.getElem?_toArray, List.getElem?_cons_zero, List.getElem?_cons_succ]; rfl
        case hQ95 => exact fun _ _ _ h => h
        case hN95 => rfl
        case hw95 => rfl
        case hy95 => intro W hSw; (try dsimp only at hSw); go_split_ands; go_simp; (try with_reducible rfl)
        simp only [Act.put, List.setIfInBounds_toArray, List.set_cons_zero, List.set_cons_succ]
        refine take_ (oi := ?oi96) (i := 14) (N := some 17) (v := ?v96) ?hi96 (by kernel_rfl) (by kernel_rfl) (by kernel_rfl) ?hQ96 ?hN96 (Or.inl ⟨?hw96, ?hy96⟩) (by assumption) ?rest96
        case hi96 => simp only [List.getElem?_toArray, List.getElem?_cons_zero, List.getElem?_cons_succ]; rfl
        case hQ96 => exact fun _ _ _ h => h
        case hN96 => rfl
        case hw96 => rfl
        case hy96 => intro W hSw; (try dsimp only at hSw); go_split_ands; go_simp; (try with_reducible rfl)
        simp only [Act.put, List.setIfInBounds_toArray, List.set_cons_zero, List.set_cons_succ]
        refine take_ (oi := ?oi97) (i := 15) (N := some 18) (v := ?v97) ?hi97 (by kernel_rfl) (by kernel_rfl) (by kernel_rfl) ?hQ97 ?hN97 (Or.inl ⟨?hw97, ?hy97⟩) (by assumption) ?rest97
        case hi97 => simp only [List.getElem?_toArray, List.getElem?_cons_zero, List.getElem?_cons_succ]; rfl
        case hQ97 => exact fun _ _ _ h => h
        case hN97 => rfl
        case hw97 => rfl
        case hy97 => intro W hSw; (try dsimp only at hSw); go_split_ands; go_simp; (try with_reducible rfl)
        simp only [Act.put, List.setIfInBounds_toArray, List.set_cons_zero, List.set_cons_succ]
        refine take_ (oi := ?oi98) (i := 16) (N := some 19) (v := ?v98) ?hi98 (by kernel_rfl) (by kernel_rfl) (by kernel_rfl) ?hQ98 ?hN98 (Or.inl ⟨?hw98, ?hy98⟩) (by assumption) ?rest98
        case hi98 => simp only [List.getElem?_toArray, List.getElem?_cons_zero, List.getElem?_cons_succ]; rfl
        case hQ98 => exact fun _ _ _ h => h
        case hN98 => rfl
        case hw98 => rfl
        case hy98 => intro W hSw; (try dsimp only at hSw); go_split_ands; go_simp; (try with_reducible rfl)
        simp only [Act.put, List.setIfInBounds_toArray, List.set_cons_zero, List.set_cons_succ]
        refine wpAnyH_ready (rs := [17]) (by kernel_rfl) (by simp) ?_
        refine AllReadyH.cons (o := ?oi99) ?hi99 (fun K hK => ?step99) AllReadyH.nil
        case hi99 => simp only [List.getElem?_toArray, List.getElem?_cons_zero, List.getElem?_cons_succ]; rfl
        refine goes_ (N := some 20) Tryz.func11 (by kernel_rfl) rfl #[.float .f64 b0] (by rfl) rfl rfl (by (try simp only [List.map_toArray, List.map_cons, List.map_nil]); rfl) ?_
        refine (M3.out _).mono ?_
        rintro e v17 ⟨rfl, hb⟩
        refine ⟨_, rfl, ?_⟩
        refine hK.out _ _ ?_ (fun hHeld => ?_)
        · (first | (go_split_ands; refine ⟨?_, ?_, ?_⟩ <;> assumption) | (go_split_ands; exact ⟨pw_cell_below hb (by assumption), pw_cell_below hb (by assumption), below_step (by assumption) hb⟩) | (refine ⟨?_, ?_, ?_⟩; (iterate 2 (focus (first | assumption | (simp [go_sem]; done) | (simp [go_sem, *]; done)))); repeat (first | (with_reducible exact Below.refl _ _) | (with_reducible apply below_drew) | (with_reducible apply below_alloc))))
        clear hK K
        simp only [Act.put, List.setIfInBounds_toArray, List.set_cons_zero, List.set_cons_succ]
        refine take_ (oi := ?oi100) (i := 18) (N := some 21) (v := ?v100) ?hi100 (by kernel_rfl) (by kernel_rfl) (by kernel_rfl) ?hQ100 ?hN100 (Or.inl ⟨?hw100, ?hy100⟩) (by assumption) ?rest100
        case hi100 => simp only [List.getElem?_toArray, List.getElem?_cons_zero, List.getElem?_cons_succ]; rfl
        case hQ100 => exact fun _ _ _ h => h
        case hN100 => rfl
        case hw100 => rfl
        case hy100 => intro W hSw; (try dsimp only at hSw); go_split_ands; go_simp; (try with_reducible rfl)
        simp only [Act.put, List.setIfInBounds_toArray, List.set_cons_zero, List.set_cons_succ]
        refine take_ (oi := ?oi101) (i := 19) (N := some 22) (v := ?v101) ?hi101 (by kernel_rfl) (by kernel_rfl) (by kernel_rfl) ?hQ101 ?hN101 (Or.inl ⟨?hw101, ?hy101⟩) (by assumption) ?rest101
        case hi101 => simp only [List.getElem?_toArray, List.getElem?_cons_zero, List.getElem?_cons_succ]; rfl
        case hQ101 => exact fun _ _ _ h => h
        case hN101 => rfl
        case hw101 => rfl
        case hy101 => intro W hSw; (try dsimp only at hSw); go_split_ands; go_simp; (try with_reducible rfl)
        simp only [Act.put, List.setIfInBounds_toArray, List.set_cons_zero, List.set_cons_succ]
        refine take_ (oi := ?oi102) (i := 20) (N := some 23) (v := ?v102) ?hi102 (by kernel_rfl) (by kernel_rfl) (by kernel_rfl) ?hQ102 ?hN102 (Or.inl ⟨?hw102, ?hy102⟩) (by assumption) ?rest102
        case hi102 => simp only [List.getElem?_toArray, List.getElem?_cons_zero, List.getElem?_cons_succ]; rfl
        case hQ102 => exact fun _ _ _ h => h
        case hN102 => rfl
        case hw102 => rfl
        case hy102 => intro W hSw; (try dsimp only at hSw); go_split_ands; go_simp; (try with_reducible rfl)
        simp only [Act.put, List.setIfInBounds_toArray, List.set_cons_zero, List.set_cons_succ]
        refine take_ (oi := ?oi103) (i := 21) (N := some 24) (v := ?v103) ?hi103 (by kernel_rfl) (by kernel_rfl) (by kernel_rfl) ?hQ103 ?hN103 (Or.inl ⟨?hw103, ?hy103⟩) (by assumption) ?rest103
        case hi103 => simp only [List.getElem?_toArray, List.getElem?_cons_zero, List.getElem?_cons_succ]; rfl
        case hQ103 => exact fun _ _ _ h => h
        case hN103 => rfl
        case hw103 => rfl
        case hy103 => intro W hSw; (try dsimp only at hSw); go_split_ands; go_simp; (try with_reducible rfl)
        simp only [Act.put, List.setIfInBounds_toArray, List.set_cons_zero, List.set_cons_succ]
        refine take_ (oi := ?oi104) (i := 22) (N := some 25) (v := ?v104) ?hi104 (by kernel_rfl) (by kernel_rfl) (by kernel_rfl) ?hQ104 ?hN104 (Or.inl ⟨?hw104, ?hy104⟩) (by assumption) ?rest104
        case hi104 => simp only [List.getElem?_toArray, List.getElem?_cons_zero, List.getElem?_cons_succ]; rfl
        case hQ104 => exact fun _ _ _ h => h
        case hN104 => rfl
        case hw104 => rfl
        case hy104 => intro W hSw; (try dsimp only at hSw); go_split_ands; go_simp; (try with_reducible rfl)
        simp only [Act.put, List.setIfInBounds_toArray, List.set_cons_zero, List.set_cons_succ]
        refine wpAnyH_ready (rs := [23]) (by kernel_rfl) (by simp) ?_
        refine AllReadyH.cons (o := ?oi105) ?hi105 (fun K hK => ?step105) AllReadyH.nil
        case hi105 => simp only [List.getElem?_toArray, List.getElem?_cons_zero, List.getElem?_cons_succ]; rfl
        refine goes_ (N := some 26) Tryz.func11 (by kernel_rfl) rfl #[.float .f64 b1] (by rfl) rfl rfl (by (try simp only [List.map_toArray, List.map_cons, List.map_nil]); rfl) ?_
        refine (M4.out _).mono ?_
        rintro e v23 ⟨rfl, hb⟩
        refine ⟨_, rfl, ?_⟩
        refine hK.out _ _ ?_ (fun hHeld => ?_)
        · (first | (go_split_ands; refine ⟨?_, ?_, ?_⟩ <;> assumption) | (go_split_ands; exact ⟨pw_cell_below hb (by assumption), pw_cell_below hb (by assumption), below_step (by assumption) hb⟩) | (refine ⟨?_, ?_, ?_⟩; (iterate 2 (focus (first | assumption | (simp [go_sem]; done) | (simp [go_sem, *]; done)))); repeat (first | (with_reducible exact Below.refl _ _) | (with_reducible apply below_drew) | (with_reducible apply below_alloc))))
        clear hK K
        simp only [Act.put, List.setIfInBounds_toArray, List.set_cons_zero, List.set_cons_succ]
        refine take_ (oi := ?oi106) (i := 24) (N := some 27) (v := ?v106) ?hi106 (by kernel_rfl) (by kernel_rfl) (by kernel_rfl) ?hQ106 ?hN106 (Or.inl ⟨?hw106, ?hy106⟩) (by assumption) ?rest106
        case hi106 => simp only [List.getElem?_toArray, List.getElem?_cons_zero, List.getElem?_cons_succ]; rfl
        case hQ106 => exact fun _ _ _ h => h
        case hN106 => rfl
        case hw106 => rfl
        case hy106 => intro W hSw; (try dsimp only at hSw); go_split_ands; go_simp; (try with_reducible rfl)
        simp only [Act.put, List.setIfInBounds_toArray, List.set_cons_zero, List.set_cons_succ]
        refine take_ (oi := ?oi107) (i := 25) (N := some 28) (v := ?v107) ?hi107 (by kernel_rfl) (by kernel_rfl) (by kernel_rfl) ?hQ107 ?hN107 (Or.inl ⟨?hw107, ?hy107⟩) (by assumption) ?rest107
        case hi107 => simp only [List.getElem?_toArray, List.getElem?_cons_zero, List.getElem?_cons_succ]; rfl
        case hQ107 => exact fun _ _ _ h => h
        case hN107 => rfl
        case hw107 => rfl
        case hy107 => intro W hSw; (try dsimp only at hSw); go_split_ands; go_simp; (try with_reducible rfl)
        simp only [Act.put, List.setIfInBounds_toArray, List.set_cons_zero, List.set_cons_succ]
        refine take_ (oi := ?oi108) (i := 26) (N := some 2) (v := ?v108) ?hi108 (by kernel_rfl) (by kernel_rfl) (by kernel_rfl) ?hQ108 ?hN108 (Or.inl ⟨?hw108, ?hy108⟩) (by assumption) ?rest108
        case hi108 => simp only [List.getElem?_toArray, List.getElem?_cons_zero, List.getElem?_cons_succ]; rfl
        case hQ108 => exact fun _ _ _ h => h
        case hN108 => rfl
        case hw108 => rfl
        case hy108 => intro W hSw; (try dsimp only at hSw); go_split_ands; go_simp; (try with_reducible rfl)
        simp only [Act.put, List.setIfInBounds_toArray, List.set_cons_zero, List.set_cons_succ]
        refine wpAnyH_done (by kernel_rfl) ?_ _
        refine NoPanic.normal ?_
        go_wp2
        go_ret
        go_split_ands
        exact ⟨rfl, by assumption⟩
theorem index_ok (A0 : Option Addr) (c0 : Nat) (l : List (Nat × Nat)) (hl : l.length ≤ 1000) (hw : ∀ p ∈ l, p.1 < 18446744073709551616 ∧ p.2 < 18446744073709551616) (w : World) (hC : kQ.C w A0 l.length l) :
    Calls Tryz.prog 16 #[.slice A0 l.length c0, .func (.func 9) #[] #[]] w fun e w' => ∃ r : Int, e = .returned (.int .i64 r) ∧ (r < 0 → ∀ p ∈ l, Ok2 p) ∧ Below w.heap.size w w' := by
  have HC := Aside0.mk (fun W (h : Below w.heap.size w W) => Kd.C_below hC h)
  have HW := Aside0.mk hw
  clear hC hw
  go_enter Tryz.func16, Tryz.ntmps16
  go_wp2
  go_loopw [8] (fun t8 wr => ∃ k : Nat, t8 = .int .i64 (k : Int) ∧ k ≤ l.length ∧ Aside0 (∀ p ∈ l.take k, Ok2 p) ∧ Aside0 (Below w.heap.size w wr)) (fun t8 _ => l.length - (intOf t8).toNat)
  case atStart => exact ⟨0, rfl, Nat.zero_le _, ⟨fun p hp => by simp at hp⟩, ⟨Below.refl _ _⟩⟩
  case round =>
    obtain ⟨k, rfl, hk, HK, HB⟩ := hrel
    rcases Nat.lt_or_ge k l.length with hlt | hge
    · obtain ⟨ad, p, rfl, hp, q0, q1⟩ := at_Q (HC.out wr HB.out) k hlt
      have hpe : l[k] = p := by rw [List.getElem?_eq_getElem hlt] at hp; exact Option.some.inj hp
      have hpw := HW.out p (by rw [← hpe]; exact List.getElem_mem hlt)
      obtain ⟨r, hr, hS⟩ := small1_ok p.1 p.2 hpw.1 hpw.2
      have HS := Aside0.mk hS
      have HR := Aside0.mk hr
      have HT : Aside0 (l.take (k + 1) = l.take k ++ [p]) := ⟨by rw [List.take_succ_eq_append_getElem hlt, hpe]⟩
      clear hS hr hp hpe
      obtain ⟨x, y⟩ := p
      simp only at q0 q1
      go_wp2_with fail
      refine (HS.out _).mono ?_
      rintro e w2 ⟨rfl, hb⟩
      have HB2 := Aside0.mk (below_step HB.out hb)
      clear hb HS HB
      cases r
      · go_wp2_with fail
        go_roundw
        case rel => exact ⟨k + 1, by go_num, by omega, ⟨fun p hp => by
          rw [HT.out] at hp
          rcases List.mem_append.1 hp with hp | hp
          · exact HK.out p hp
          · rw [List.mem_singleton.1 hp]; exact HR.out (by first | trivial | rfl)⟩, HB2⟩
        case measure => simp [intOf]; omega
      · go_wp2_with fail
        go_ret
        exact ⟨_, rfl, fun h => absurd h (by omega), HB2.out⟩
    · obtain rfl : k = l.length := by omega
      rw [List.take_length] at HK
      go_wp2
      go_ret
      exact ⟨_, rfl, fun _ => HK.out, HB.out⟩
theorem contains_ok (A0 : Option Addr) (c0 : Nat) (l : List (Nat × Nat)) (hl : l.length ≤ 1000) (hw : ∀ p ∈ l, p.1 < 18446744073709551616 ∧ p.2 < 18446744073709551616) (w : World) (hC : kQ.C w A0 l.length l) :
    Calls Tryz.prog 8 #[.slice A0 l.length c0, .func (.func 9) #[] #[]] w fun e w' => ∃ r : Bool, e = .returned (.bool r) ∧ (r = false → ∀ p ∈ l, Ok2 p) ∧ Below w.heap.size w w' := by
  have H := Aside0.mk (index_ok A0 c0 l hl hw w hC)
  clear hC hw
  go_enter Tryz.func8, Tryz.ntmps8
  go_wp2_with fail
  refine (H.out).mono ?_
  rintro e w2 ⟨r, rfl, hr, hb⟩
  have HR := Aside0.mk hr
  have HB := Aside0.mk hb
  clear hr hb H
  go_wp2_with fail
  go_ret
  exact ⟨_, rfl, fun h => HR.out (by simpa using h), HB.out⟩
theorem geSmall_ok (A0 : Option Addr) (c0 : Nat) (l : List (Nat × Nat)) (hl : l.length = 2) (hw : ∀ p ∈ l, p.1 < 18446744073709551616 ∧ p.2 < 18446744073709551616) (w : World) (hC : kQ.C w A0 l.length l) :
    Calls Tryz.prog 4 #[.slice A0 2 c0, .int .i64 2] w fun e w' => ∃ r : Bool, e = .returned (.bool r) ∧ (r = true → ∀ p ∈ l, Ok2 p) ∧ Below w.heap.size w w' := by
  have h0 := contains_ok A0 c0 l (by omega) hw w hC
  rw [hl] at h0
  have H := Aside0.mk h0
  clear hC hw h0
  go_enter Tryz.func4, Tryz.ntmps4
  go_wp2_with fail
  refine (H.out).mono ?_
  rintro e w2 ⟨r, rfl, hr, hb⟩
  have HR := Aside0.mk hr
  have HB := Aside0.mk hb
  clear hr hb H
  go_wp2_with fail
  go_ret
  exact ⟨!r, by first | rfl | simp, fun h => HR.out (by simpa using h), HB.out⟩
end Go.Proofs.YtjhgmpeoagndjaaGreat.GE
