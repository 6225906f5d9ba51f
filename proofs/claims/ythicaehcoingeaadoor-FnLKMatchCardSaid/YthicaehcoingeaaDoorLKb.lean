/-
  Contract of LikeMatcher.backtrack: the last node of any characters takes one more; false where there is none. Condition: the ten characters of the law, at most 100; utf8's two tables as laid.
-/
import Derived.Test.YthicaehcoingeaaDoorLKw
namespace Go.Proofs.YthicaehcoingeaaDoor.PLK
open Go.RowKit Go.Proofs.YthicaehcoingeaaDoorW.PrintWords Go.Proofs.YthicaehcoingeaaDoorW.PrintLast Go.Proofs.YthicaehcoingeaaDoorW.PrintMore
set_option linter.unusedVariables false
set_option linter.unusedSimpArgs false
set_option maxRecDepth 100000
set_option maxHeartbeats 1000000

theorem backtrack_ok (ns : List ND) (A : Option Addr) (cA : Nat) (col : Value) (esc : Int) (l : List Int) (hl : l.all okR = true) (hll : l.length ≤ 100) (hnl : ns.length ≤ 100) (w : World) (hT : Glob w)
    (hN : Kd.C kN w A ns.length ns) (ni : Int) (a q i g cap : Nat) (hni : ni = i ∨ ni = (i : Int) - 1) (hai : a ≤ i) (hi : i ≤ ns.length) (hp : q + (i - a) < l.length)
    (hones : ∀ k, a ≤ k → k < i → ∃ o x, ns[k]? = some (some (o, x))) (hnode : 0 < a → ns[a - 1]? = some none)
    (hst : ∀ k, k < i → a ≤ k + 1 → w.cell? ⟨g, k, none⟩ = some (.int .i64 ((off l (q + (k + 1 - a)) : Nat) : Int)) ∧ w.frozen? ⟨g, k, none⟩ = false) :
    Calls Tryd.prog 73 #[.agg #[.slice A ns.length cA, col, .int .i32 esc], .string (runesBytes l), .int .i64 ni, .slice (some ⟨g, 0, none⟩) i cap] w fun e w' =>
      (a = 0 → e = .returned (.tuple #[.bool false, .int .i64 0]) ∧ Below w.heap.size w w') ∧
      (0 < a → e = .returned (.tuple #[.bool true, .int .i64 (a : Int)]) ∧ ∃ w1, Below w.heap.size w w1 ∧ w' = w1.setCell ⟨g, a - 1, none⟩ (.int .i64 ((off l (q + 1) : Nat) : Int))) := by
  have HT := Aside0.mk hT
  have HN := Aside0.mk hN
  have HO := Aside0.mk hones
  have HD := Aside0.mk hnode
  have HS := Aside0.mk hst
  have HL := Aside0.mk hl
  clear hT hN hones hnode hst hl
  have hsz : off l l.length = (runesBytes l).size := off_all l
  have hmost := off_most l HL.out l.length (Nat.le_refl _)
  rw [hsz] at hmost
  go_enter Tryd.func73, Tryd.ntmps73
  have gge : ∀ x : Int, x = i → (decide (x ≥ (i : Int))) = true := fun x h => decide_eq_true (by omega)
  have ggf : ∀ x : Int, x = (i : Int) - 1 → (decide (x ≥ (i : Int))) = false := fun x h => decide_eq_false (by omega)
  rcases hni with hni | hni
  · have gg := gge ni hni
    go_wp2_with fail
    clear gg gge ggf hni
    go_loopw [2] (fun t wr => ∃ z : Int, t = .int .i64 z ∧ (a : Int) ≤ z + 1 ∧ z < i ∧ Aside0 (Below (w.alloc (.cells #[.slice A ns.length cA, col, .int .i32 esc] 73)).heap.size (w.alloc (.cells #[.slice A ns.length cA, col, .int .i32 esc] 73)) wr)) (fun t _ => (intOf t + 1).toNat)
    case atStart => exact ⟨_, rfl, by omega, by omega, ⟨Below.refl _ _⟩⟩
    case round =>
      obtain ⟨z, rfl, hz1, hz2, HB⟩ := hrel
      have HB0 := Aside0.mk (below_then (below_alloc (Below.refl _ _) _) (by simp) HB.out)
      have hc0 : wr.cell? ⟨w.heap.size, 0, none⟩ = some (.slice A ns.length cA) := (HB.out.cell (p := ⟨w.heap.size, 0, none⟩) (by simp)).trans (by simp [go_sem])
      have hc1 : wr.cell? ⟨w.heap.size, 1, none⟩ = some col := (HB.out.cell (p := ⟨w.heap.size, 1, none⟩) (by simp)).trans (by simp [go_sem])
      by_cases h0 : z = -1
      · subst h0
        obtain rfl : a = 0 := by omega
        go_wp2_with fail
        go_ret2
        first
          | exact ⟨rfl, HB0.out⟩
          | exact ⟨fun _ => ⟨rfl, HB0.out⟩, fun h => absurd h (by omega)⟩
      · obtain ⟨k, rfl⟩ : ∃ k : Nat, z = k := ⟨z.toNat, by omega⟩
        have hki : k < i := by omega
        obtain ⟨hcell, hfrz⟩ := HS.out k hki (by omega)
        replace hfrz := (HB0.out.frozen (World.block_lt_of_cell? w _ hcell)).trans hfrz
        replace hcell := (HB0.out.cell (World.block_lt_of_cell? w _ hcell)).trans hcell
        have hlt : q + (k + 1 - a) < l.length := by omega
        have hlk : l[q + (k + 1 - a)]? = some l[q + (k + 1 - a)] := List.getElem?_eq_getElem hlt
        have hof := off_lt l HL.out _ hlt
        have hos := off_succ l _ _ hlk
        have hok := List.all_eq_true.1 HL.out _ (List.getElem_mem hlt)
        have hne := okR_ne _ hok
        have HDC := Aside0.mk (fun W hW => dec_call l HL.out _ _ hlk W hW)
        have HTr := Aside0.mk (Glob.later HT.out HB0.out)
        have HNr := Aside0.mk (Kd.C_below HN.out HB0.out)
        generalize hc : l[q + (k + 1 - a)] = c at *
        generalize hoff : off l (q + (k + 1 - a)) = f at *
        have hblen := (bt_len c hok).2
        clear HB0
        go_wp2_with fail
        refine (HDC.out _ HTr.out).mono ?_
        rintro e w2 ⟨rfl, hb⟩
        have HB1 := Aside0.mk (below_then HB.out HB.out.size hb)
        replace hc0 := (hb.cell (World.block_lt_of_cell? wr _ hc0)).trans hc0
        replace hc1 := (hb.cell (World.block_lt_of_cell? wr _ hc1)).trans hc1
        replace hfrz := (hb.frozen (World.block_lt_of_cell? wr _ hcell)).trans hfrz
        replace hcell := (hb.cell (World.block_lt_of_cell? wr _ hcell)).trans hcell
        have HN2 := Aside0.mk (Kd.C_below HNr.out hb)
        clear HB HDC HTr HNr hb
        by_cases hka : a ≤ k
        · obtain ⟨o, x, hox⟩ := HO.out k hka hki
          obtain ⟨ad, hA, hcn⟩ := at_N HN2.out k _ hox (by omega)
          subst hA
          have hcn' : w2.cell? (ad.add k) = some (.iface 108 (.agg #[.int .i32 o, .int .i32 x])) := hcn
          clear hcn
          go_wp2
          have HNX := Aside0.mk (fun W => next_one o x col c W)
          go_region_with (first | ((with_reducible refine (HNX.out _).mono ?_); rintro e w3 ⟨rfl, hb⟩; have HB3 := Aside0.mk (below_step (by repeat (first | (with_reducible exact HB1.out) | (with_reducible apply below_drew) | (with_reducible apply pw_below_drewN) | (with_reducible apply below_drew1))) hb); clear hb))
          all_goals go_wp2
          all_goals go_roundw
          all_goals first
            | exact ⟨(k : Int) - 1, rfl, by omega, by omega, HB3⟩
            | (simp [intOf] <;> omega)
        · obtain rfl : a = k + 1 := by omega
          have hox := HD.out (by omega)
          rw [Nat.add_sub_cancel] at hox
          obtain ⟨ad, hA, hcn⟩ := at_N HN2.out k _ hox (by omega)
          subst hA
          have hcn' : w2.cell? (ad.add k) = some (.iface 109 (.agg #[])) := hcn
          clear hcn
          have hfin : off l (q + 1) = f + (bt c).length := by rw [← hos]; congr 1; omega
          go_wp2
          have HNX := Aside0.mk (fun W => next_any col c W)
          go_region_with (first | ((with_reducible refine (HNX.out _).mono ?_); rintro e w3 ⟨rfl, hb⟩; have HB3 := Aside0.mk (below_step (by repeat (first | (with_reducible exact HB1.out) | (with_reducible apply below_drew) | (with_reducible apply pw_below_drewN) | (with_reducible apply below_drew1))) hb); have hf3 := (hb.frozen (World.block_lt_of_cell? _ _ (by simpa [go_sem] using hcell))).trans (by simpa [go_sem] using hfrz); have hc3 := (hb.cell (World.block_lt_of_cell? _ _ (by simpa [go_sem] using hcell))).trans (by simpa [go_sem] using hcell); clear hb))
          all_goals go_wp2
          all_goals go_ret2
          all_goals
            refine ⟨fun h => absurd h (by omega), fun _ => ⟨?_, w3, below_then (below_alloc (Below.refl _ _) _) (by simp) HB3.out, ?_⟩⟩
            · rw [show ((k + 1 : Nat) : Int) = (k : Int) + 1 by omega]
              rfl
            · rw [hfin, show ((f + (bt c).length : Nat) : Int) = (f : Int) + ((bt c).length : Int) by omega]
              rfl
  · have gg := ggf ni hni
    go_wp2_with fail
    clear gg gge ggf
    subst hni
    go_loopw [2] (fun t wr => ∃ z : Int, t = .int .i64 z ∧ (a : Int) ≤ z + 1 ∧ z < i ∧ Aside0 (Below (w.alloc (.cells #[.slice A ns.length cA, col, .int .i32 esc] 73)).heap.size (w.alloc (.cells #[.slice A ns.length cA, col, .int .i32 esc] 73)) wr)) (fun t _ => (intOf t + 1).toNat)
    case atStart => exact ⟨_, rfl, by omega, by omega, ⟨Below.refl _ _⟩⟩
    case round =>
      obtain ⟨z, rfl, hz1, hz2, HB⟩ := hrel
      have HB0 := Aside0.mk (below_then (below_alloc (Below.refl _ _) _) (by simp) HB.out)
      have hc0 : wr.cell? ⟨w.heap.size, 0, none⟩ = some (.slice A ns.length cA) := (HB.out.cell (p := ⟨w.heap.size, 0, none⟩) (by simp)).trans (by simp [go_sem])
      have hc1 : wr.cell? ⟨w.heap.size, 1, none⟩ = some col := (HB.out.cell (p := ⟨w.heap.size, 1, none⟩) (by simp)).trans (by simp [go_sem])
      by_cases h0 : z = -1
      · subst h0
        obtain rfl : a = 0 := by omega
        go_wp2_with fail
        go_ret2
        first
          | exact ⟨rfl, HB0.out⟩
          | exact ⟨fun _ => ⟨rfl, HB0.out⟩, fun h => absurd h (by omega)⟩
      · obtain ⟨k, rfl⟩ : ∃ k : Nat, z = k := ⟨z.toNat, by omega⟩
        have hki : k < i := by omega
        obtain ⟨hcell, hfrz⟩ := HS.out k hki (by omega)
        replace hfrz := (HB0.out.frozen (World.block_lt_of_cell? w _ hcell)).trans hfrz
        replace hcell := (HB0.out.cell (World.block_lt_of_cell? w _ hcell)).trans hcell
        have hlt : q + (k + 1 - a) < l.length := by omega
        have hlk : l[q + (k + 1 - a)]? = some l[q + (k + 1 - a)] := List.getElem?_eq_getElem hlt
        have hof := off_lt l HL.out _ hlt
        have hos := off_succ l _ _ hlk
        have hok := List.all_eq_true.1 HL.out _ (List.getElem_mem hlt)
        have hne := okR_ne _ hok
        have HDC := Aside0.mk (fun W hW => dec_call l HL.out _ _ hlk W hW)
        have HTr := Aside0.mk (Glob.later HT.out HB0.out)
        have HNr := Aside0.mk (Kd.C_below HN.out HB0.out)
        generalize hc : l[q + (k + 1 - a)] = c at *
        generalize hoff : off l (q + (k + 1 - a)) = f at *
        have hblen := (bt_len c hok).2
        clear HB0
        go_wp2_with fail
        refine (HDC.out _ HTr.out).mono ?_
        rintro e w2 ⟨rfl, hb⟩
        have HB1 := Aside0.mk (below_then HB.out HB.out.size hb)
        replace hc0 := (hb.cell (World.block_lt_of_cell? wr _ hc0)).trans hc0
        replace hc1 := (hb.cell (World.block_lt_of_cell? wr _ hc1)).trans hc1
        replace hfrz := (hb.frozen (World.block_lt_of_cell? wr _ hcell)).trans hfrz
        replace hcell := (hb.cell (World.block_lt_of_cell? wr _ hcell)).trans hcell
        have HN2 := Aside0.mk (Kd.C_below HNr.out hb)
        clear HB HDC HTr HNr hb
        by_cases hka : a ≤ k
        · obtain ⟨o, x, hox⟩ := HO.out k hka hki
          obtain ⟨ad, hA, hcn⟩ := at_N HN2.out k _ hox (by omega)
          subst hA
          have hcn' : w2.cell? (ad.add k) = some (.iface 108 (.agg #[.int .i32 o, .int .i32 x])) := hcn
          clear hcn
          go_wp2
          have HNX := Aside0.mk (fun W => next_one o x col c W)
          go_region_with (first | ((with_reducible refine (HNX.out _).mono ?_); rintro e w3 ⟨rfl, hb⟩; have HB3 := Aside0.mk (below_step (by repeat (first | (with_reducible exact HB1.out) | (with_reducible apply below_drew) | (with_reducible apply pw_below_drewN) | (with_reducible apply below_drew1))) hb); clear hb))
          all_goals go_wp2
          all_goals go_roundw
          all_goals first
            | exact ⟨(k : Int) - 1, rfl, by omega, by omega, HB3⟩
            | (simp [intOf] <;> omega)
        · obtain rfl : a = k + 1 := by omega
          have hox := HD.out (by omega)
          rw [Nat.add_sub_cancel] at hox
          obtain ⟨ad, hA, hcn⟩ := at_N HN2.out k _ hox (by omega)
          subst hA
          have hcn' : w2.cell? (ad.add k) = some (.iface 109 (.agg #[])) := hcn
          clear hcn
          have hfin : off l (q + 1) = f + (bt c).length := by rw [← hos]; congr 1; omega
          go_wp2
          have HNX := Aside0.mk (fun W => next_any col c W)
          go_region_with (first | ((with_reducible refine (HNX.out _).mono ?_); rintro e w3 ⟨rfl, hb⟩; have HB3 := Aside0.mk (below_step (by repeat (first | (with_reducible exact HB1.out) | (with_reducible apply below_drew) | (with_reducible apply pw_below_drewN) | (with_reducible apply below_drew1))) hb); have hf3 := (hb.frozen (World.block_lt_of_cell? _ _ (by simpa [go_sem] using hcell))).trans (by simpa [go_sem] using hfrz); have hc3 := (hb.cell (World.block_lt_of_cell? _ _ (by simpa [go_sem] using hcell))).trans (by simpa [go_sem] using hcell); clear hb))
          all_goals go_wp2
          all_goals go_ret2
          all_goals
            refine ⟨fun h => absurd h (by omega), fun _ => ⟨?_, w3, below_then (below_alloc (Below.refl _ _) _) (by simp) HB3.out, ?_⟩⟩
            · rw [show ((k + 1 : Nat) : Int) = (k : Int) + 1 by omega]
              rfl
            · rw [hfin, show ((f + (bt c).length : Nat) : Int) = (f : Int) + ((bt c).length : Int) by omega]
              rfl
end Go.Proofs.YthicaehcoingeaaDoor.PLK
