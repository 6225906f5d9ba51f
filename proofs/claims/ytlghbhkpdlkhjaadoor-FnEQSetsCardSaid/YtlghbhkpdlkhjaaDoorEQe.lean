/-
  Contract of EquivSets.Add: rows of small sets. Condition: no set is large; at most 1000 sets.
-/
import Derived.Test.YtlghbhkpdlkhjaaDoorEQc
import Derived.Outline
import Derived.Deep.RegionLaw
namespace Go.Proofs.YtlghbhkpdlkhjaaDoor.PEQ
open Go.RowKit Go.Proofs.YtlghbhkpdlkhjaaDoorW.PrintWords Go.Proofs.YtlghbhkpdlkhjaaDoorW.PrintLast Go.Proofs.YtlghbhkpdlkhjaaDoorW.PrintMore
set_option linter.unusedVariables false
set_option linter.unusedSimpArgs false
set_option maxRecDepth 100000
set_option maxHeartbeats 400000

/-- what Add does with the sets: those that meet the new one are joined to it, the last one comes in their place -/
def addGo : Nat → List Nat → Nat → Nat → List Nat
  | 0, l, m, _ => l ++ [m]
  | n + 1, l, m, i => if h : i < l.length then (if m &&& l[i] ≠ 0 then addGo n ((l.set i (l[l.length - 1]'(by omega))).take (l.length - 1)) (m ||| l[i]) i else addGo n l m (i + 1)) else l ++ [m]
def addL (l : List Nat) (m : Nat) : List Nat := addGo l.length l m 0
theorem info55 : (Tryd.prog.info? 55).map (fun i => (i.zero, i.size, i.bytes)) = some (some (.agg #[.int .u64 0, .pointer none]), 2, 16) := by kernel_rfl
/-- a set of sets at a block: its row -/
def EqAt (w : World) (p base : Nat) (l : List Nat) : Prop := ∃ v, w.heap[p]? = some (.cells #[v] 52 (0, 0)) ∧ p < base ∧ base ≤ w.heap.size ∧ Own w base v l
theorem heap_set_at {w : World} {p t : Nat} {cs : Array Value} {f : Nat × Nat} (h : w.heap[p]? = some (.cells cs t f)) (o : Nat) (v : Value) : (w.setCell ⟨p, o, none⟩ v).heap[p]? = some (.cells (cs.setIfInBounds o v) t f) := by
  rw [show (w.setCell ⟨p, o, none⟩ v).heap[p]? = (w.heap.modify p (fun ob => match ob with | .cells c t f => .cells (c.setIfInBounds o v) t f | ob => ob))[p]? from rfl, Array.getElem?_modify, if_pos rfl, h]
  rfl
theorem own_slice {w : World} {base e size n : Nat} {v : Value} {xs : List Value} (h : w.ownsRow base e size v n xs) : ∃ A c, v = .slice A n c := by
  rcases h.2 with ⟨rfl, e⟩ | ⟨g, cap, cur, rfl, _⟩
  · exact ⟨none, 0, by rw [e]⟩
  · exact ⟨_, _, rfl⟩
/-- how long the row is that lies at a block -/
def lenAt (w : World) (p : Nat) : Nat := match w.heap[p]? with
  | some (.cells cs _ _) => (match cs[0]? with | some (Value.slice _ n _) => n | _ => 0)
  | _ => 0
theorem lenAt_of {w : World} {p n c t : Nat} {A : Option Addr} {z : Nat × Nat} (h : w.heap[p]? = some (.cells #[.slice A n c] t z)) : lenAt w p = n := by unfold lenAt; rw [h]; rfl
theorem add_ok (p base : Nat) (l : List Nat) (m : Nat) (w : World) (hE : EqAt w p base l) (hm : m < big) (hb : ∀ x ∈ l, x < big) (hl : l.length ≤ 1000) :
    Calls Tryd.prog 26 #[.pointer (some ⟨p, 0, none⟩), cv m] w fun e w' => e = .returned (.tuple #[]) ∧ EqAt w' p base (addL l m) ∧ Still (fun k => k = p ∨ base ≤ k) w w' := by
  obtain ⟨v, h0, hp, hbs, hO⟩ := hE
  have hbox : (w.alloc (.cells #[.int .u64 (m : Int), .pointer none] 55)).heap[w.heap.size]? = some (.cells #[.int .u64 (m : Int), .pointer none] 55 (0, 0)) := heap_alloc_new _ _
  have hS0 := Still.of_below (S := fun k => k = p ∨ base ≤ k) (below_alloc (Below.refl w.heap.size w) (.cells #[.int .u64 (m : Int), .pointer none] 55))
  have HB := Aside0.mk hbox
  have HS := Aside0.mk hS0
  have HO := Aside0.mk (own_move (w1 := w.alloc (.cells #[.int .u64 (m : Int), .pointer none] 55)) hO (fun k hk => Below.heap_alloc _ _ _ (own_lt hO k hk)))
  have HP := Aside0.mk ((Below.heap_alloc w (.cells #[.int .u64 (m : Int), .pointer none] 55) p (by omega)).trans h0)
  have HM := Aside0.mk hm
  have HR := Aside0.mk hb
  have hlt : p < w.heap.size := by omega
  have hO' := hO
  clear hbox hS0 hO h0 hm hb
  go_enter Tryd.func26, Tryd.ntmps26
  go_wp2
  go_loopw [4] (fun t4 wr => ∃ (i m1 : Nat) (l1 : List Nat) (v1 : Value), t4 = .int .i64 (i : Int) ∧ i ≤ l1.length ∧ l1.length ≤ l.length ∧ Aside0 (addGo (l1.length - i) l1 m1 i = addL l m) ∧ Aside0 (m1 < big) ∧ Aside0 (∀ x ∈ l1, x < big) ∧ wr.heap[p]? = some (.cells #[v1] 52 (0, 0)) ∧ wr.heap[w.heap.size]? = some (.cells #[.int .u64 (m1 : Int), .pointer none] 55 (0, 0)) ∧ (∀ k, v1.ownBlock = some k → k < w.heap.size) ∧ Own wr base v1 l1 ∧ Aside0 (Still (fun k => k = p ∨ base ≤ k) w wr)) (fun t4 wr => lenAt wr p - (intOf t4).toNat)
  case atStart => exact ⟨0, m, l, v, rfl, Nat.zero_le _, Nat.le_refl _, ⟨rfl⟩, HM, HR, HP.out, HB.out, fun k hk => by have := own_lt hO' k hk; exact this, HO.out, HS⟩
  case round =>
    obtain ⟨i, m1, l1, v1, rfl, hi, hl1, HG, HM1, HR1, hp1, hb1, hv1, hO1, HS1⟩ := hrel
    obtain ⟨A, c, rfl⟩ := hO1.slice
    have q0 : wr.cell? ⟨p, 0, none⟩ = some (.slice A l1.length c) := by rw [Lib.cell_of_heap hp1]; rfl
    rcases Nat.lt_or_ge i l1.length with hlt1 | hge
    · obtain ⟨g, rfl, hg1, hg2, hc, hcell⟩ := hO1.cells (by omega)
      obtain ⟨e0, e1, ez⟩ := hcell i hlt1
      have ez0 := ez (i * 2)
      have ez1 := ez (i * 2 + 1)
      obtain ⟨f0, f1, _⟩ := hcell (l1.length - 1) (by omega)
      have HI := Aside0.mk (meets_ok m1 l1[i] HM1.out (HR1.out _ (List.getElem_mem _)))
      have HU := Aside0.mk (union_ok m1 l1[i] HM1.out (HR1.out _ (List.getElem_mem _)))
      have b0 : wr.cell? ⟨w.heap.size, 0, none⟩ = some (.int .u64 (m1 : Int)) := by rw [Lib.cell_of_heap hb1]; rfl
      have b1 : wr.cell? ⟨w.heap.size, 1, none⟩ = some (.pointer none) := by rw [Lib.cell_of_heap hb1]; rfl
      have hsz := blk_lt hb1
      clear hcell ez
      have hB1 := below_alloc (Below.refl wr.heap.size wr) (.cells #[.int .u64 (l1[i] : Int), .pointer none] 55)
      have hx1 : (wr.alloc (.cells #[.int .u64 (l1[i] : Int), .pointer none] 55)).heap[wr.heap.size]? = some (.cells #[.int .u64 (l1[i] : Int), .pointer none] 55 (0, 0)) := heap_alloc_new _ _
      have HB1 := Aside0.mk hB1
      have HX1 := Aside0.mk hx1
      clear hB1 hx1
      have HO1 := Aside0.mk hO1
      have HP1 := Aside0.mk hp1
      have HT1 := Aside0.mk hb1
      have HGo : Aside0 (addL l m = if (((m1 &&& l1[i] : Nat) : Int) != 0) = true then addGo (l1.length - i - 1) ((l1.set i l1[l1.length - 1]).take (l1.length - 1)) (m1 ||| l1[i]) i else addGo (l1.length - i - 1) l1 m1 (i + 1)) := ⟨by
        rw [← HG.out]
        obtain ⟨n, hn⟩ : ∃ n, l1.length - i = n + 1 := ⟨l1.length - i - 1, by omega⟩
        rw [hn, addGo, dif_pos hlt1]
        simp⟩
      have hbx : l1[i] < big := HR1.out _ (List.getElem_mem _)
      have hby : l1[l1.length - 1] < big := HR1.out _ (List.getElem_mem _)
      have HM3 := Aside0.mk (or_lt HM1.out hbx)
      have HR3 : Aside0 (∀ x ∈ (l1.set i l1[l1.length - 1]).take (l1.length - 1), x < big) := ⟨fun x hx => by
        rcases List.mem_or_eq_of_mem_set (List.mem_of_mem_take hx) with h | h
        · exact HR1.out x h
        · subst h; exact hby⟩
      have HO3 : Aside0 (∀ W, Own W base (.slice (some ⟨g, 0, none⟩) l1.length c) l1 → Own ((W.setCell ⟨g, i * 2, none⟩ (.int .u64 (l1[l1.length - 1] : Int))).setCell ⟨g, i * 2 + 1, none⟩ (.pointer none)) base (.slice (some ⟨g, 0, none⟩) (l1.length - 1) c) ((l1.set i l1[l1.length - 1]).take (l1.length - 1))) := ⟨fun W h => by
        have h2 := h.set i l1[l1.length - 1] hlt1
        have h3 := Own.take (n := l1.length - 1) (by rw [List.length_set]; exact h2) (by rw [List.length_set]; omega)
        exact h3⟩
      clear hbx hby HG
      generalize l1[i] = x at *
      generalize hy : l1[l1.length - 1] = y at *
      have HY := Aside0.mk hy
      clear hy
      clear hO1 hp1 hb1
      go_wp2_with fail
      refine (HI.out _).mono ?_
      rintro e w2 ⟨rfl, hb2⟩
      have hB2 : Below wr.heap.size wr w2 := HB1.out.trans (hb2.mono (by simp))
      have hX2 := (hb2.block _ (blk_lt HX1.out)).trans HX1.out
      have HB2 := Aside0.mk hB2
      have x0 : w2.cell? ⟨wr.heap.size, 0, none⟩ = some (.int .u64 (x : Int)) := by rw [Lib.cell_of_heap hX2]; rfl
      have x1 : w2.cell? ⟨wr.heap.size, 1, none⟩ = some (.pointer none) := by rw [Lib.cell_of_heap hX2]; rfl
      replace q0 := (hB2.cell (World.block_lt_of_cell? wr _ q0)).trans q0
      replace b0 := (hB2.cell (World.block_lt_of_cell? wr _ b0)).trans b0
      replace b1 := (hB2.cell (World.block_lt_of_cell? wr _ b1)).trans b1
      clear hb2 hB2 hX2 HI HX1 HB1 e0 e1 ez0 ez1 f0 f1
      cases hq : (((m1 &&& x : Nat) : Int) != 0)
      · rw [hq, if_neg (by decide)] at HGo
        have hP2 := (HB2.out.block _ (blk_lt HP1.out)).trans HP1.out
        have hT2 := (HB2.out.block _ (blk_lt HT1.out)).trans HT1.out
        have HO2 := Aside0.mk (own_move HO1.out (fun k hk => HB2.out.block k (own_lt HO1.out k hk)))
        have HS2 := Aside0.mk (HS1.out.trans (Still.of_below HB2.out))
        have HP2 := Aside0.mk hP2
        have HT2 := Aside0.mk hT2
        have hL1 := lenAt_of HP1.out
        have hL2 := lenAt_of hP2
        have HL := Aside0.mk (show lenAt w2 p - (intOf (.int .i64 ((i : Int) + 1))).toNat < lenAt wr p - (intOf (.int .i64 (i : Int))).toNat by rw [hL1, hL2]; simp [intOf]; omega)
        clear hP2 hT2 hL1 hL2
        go_wp2_with fail
        exact ⟨⟨i + 1, m1, l1, _, by go_num, by omega, hl1, ⟨by rw [HGo.out, show l1.length - (i + 1) = l1.length - i - 1 by omega]⟩, HM1, HR1, HP2.out, HT2.out, hv1, HO2.out, HS2⟩, HL.out⟩
      · rw [hq, if_pos rfl] at HGo
        go_wp2_with fail
        refine (HU.out _).mono ?_
        rintro e w3 ⟨rfl, hb3⟩
        have hB3 : Below wr.heap.size wr w3 := HB2.out.trans (hb3.mono HB2.out.size)
        have hP3 := (hB3.block _ (blk_lt HP1.out)).trans HP1.out
        have hT3 := (hB3.block _ (blk_lt HT1.out)).trans HT1.out
        have hO3 := own_move HO1.out (fun k hk => hB3.block k (own_lt HO1.out k hk))
        have b03 : w3.cell? ⟨w.heap.size, 0, none⟩ = some (.int .u64 (m1 : Int)) := by rw [Lib.cell_of_heap hT3]; rfl
        have b13 : w3.cell? ⟨w.heap.size, 1, none⟩ = some (.pointer none) := by rw [Lib.cell_of_heap hT3]; rfl
        have bz : w3.frozen? ⟨w.heap.size, 0, none⟩ = false := Lib.frozen_of_heap hT3 _
        have bz1 : w3.frozen? ⟨w.heap.size, 1, none⟩ = false := Lib.frozen_of_heap hT3 _
        clear hb3 x0 x1 q0 b0 b1 hq HU
        go_wp2
        generalize hW4 : (w3.setCell ⟨w.heap.size, 0, none⟩ (.int .u64 ((m1 ||| x : Nat) : Int))).setCell ⟨w.heap.size, 1, none⟩ (.pointer none) = w4
        have hpne : p ≠ w.heap.size := by omega
        have hgw : g < w.heap.size := hv1 g rfl
        have hgne : g ≠ w.heap.size := by omega
        have hP4 : w4.heap[p]? = some (.cells #[.slice (some ⟨g, 0, none⟩) l1.length c] 52 (0, 0)) := by
          rw [← hW4, Below.heap_setCell _ _ _ _ hpne, Below.heap_setCell _ _ _ _ hpne]
          exact hP3
        have hT4 : w4.heap[w.heap.size]? = some (.cells #[.int .u64 ((m1 ||| x : Nat) : Int), .pointer none] 55 (0, 0)) := by
          rw [← hW4, heap_set_at (heap_set_at hT3 0 _) 1 _]
          rfl
        have hO4 : Own w4 base (.slice (some ⟨g, 0, none⟩) l1.length c) l1 := own_move hO3 (fun k hk => by
          obtain rfl : g = k := by simpa [Value.ownBlock] using hk
          rw [← hW4, Below.heap_setCell _ _ _ _ hgne, Below.heap_setCell _ _ _ _ hgne])
        have hS4 : Still (fun k => k = p ∨ base ≤ k) w w4 := by
          rw [← hW4]
          exact ((HS1.out.trans (Still.of_below hB3)).setCell (p := ⟨w.heap.size, 0, none⟩) (.inr (Nat.le_refl _)) _).setCell (p := ⟨w.heap.size, 1, none⟩) (.inr (Nat.le_refl _)) _
        clear hW4 hP3 hT3 hO3 b03 b13 bz bz1
        obtain ⟨_, hgg, hg1', hg4, hcap, hcell⟩ := hO4.cells (by omega)
        obtain rfl : g = _ := by simpa using hgg
        obtain ⟨e0, e1, ez⟩ := hcell i hlt1
        obtain ⟨f0, f1, _⟩ := hcell (l1.length - 1) (by omega)
        have q4 : w4.cell? ⟨p, 0, none⟩ = some (.slice (some ⟨g, 0, none⟩) l1.length c) := by rw [Lib.cell_of_heap hP4]; rfl
        have z4 : w4.frozen? ⟨p, 0, none⟩ = false := Lib.frozen_of_heap hP4 _
        have ez0 := ez (i * 2)
        have ez1 := ez (i * 2 + 1)
        rw [HY.out] at f0
        clear ez hcell
        go_region
        go_wp2
        generalize hW5 : ((w4.setCell ⟨g, i * 2, none⟩ (.int .u64 (y : Int))).setCell ⟨g, i * 2 + 1, none⟩ (.pointer none)).drew = w5
        have hpg : p ≠ g := by omega
        have hP5 : w5.heap[p]? = some (.cells #[.slice (some ⟨g, 0, none⟩) l1.length c] 52 (0, 0)) := by
          rw [← hW5]
          exact ((Below.heap_setCell _ _ _ _ hpg).trans (Below.heap_setCell _ _ _ _ hpg)).trans hP4
        have hT5 : w5.heap[w.heap.size]? = some (.cells #[.int .u64 ((m1 ||| x : Nat) : Int), .pointer none] 55 (0, 0)) := by
          rw [← hW5]
          exact ((Below.heap_setCell _ _ _ _ hgne.symm).trans (Below.heap_setCell _ _ _ _ hgne.symm)).trans hT4
        have hO5 := own_move (w1 := w5) (HO3.out w4 hO4) (fun k hk => by rw [← hW5]; rfl)
        have hS5 : Still (fun k => k = p ∨ base ≤ k) w w5 := by
          rw [← hW5]
          exact ((hS4.setCell (p := ⟨g, i * 2, none⟩) (.inl (.inr hg1)) _).setCell (p := ⟨g, i * 2 + 1, none⟩) (.inl (.inr hg1)) _).drew
        clear hW5 hP4 hT4 hO4 hS4 e0 e1 f0 f1 q4 z4 ez0 ez1 hgg hg1' hg4 hcap
        have q5 : w5.cell? ⟨p, 0, none⟩ = some (.slice (some ⟨g, 0, none⟩) l1.length c) := by rw [Lib.cell_of_heap hP5]; rfl
        have z5 : w5.frozen? ⟨p, 0, none⟩ = false := Lib.frozen_of_heap hP5 _
        have hP6 := heap_set_at hP5 0 (.slice (some ⟨g, 0, none⟩) (l1.length - 1) c)
        have hO6 : Own (w5.setCell ⟨p, 0, none⟩ (.slice (some ⟨g, 0, none⟩) (l1.length - 1) c)) base (.slice (some ⟨g, 0, none⟩) (l1.length - 1) c) ((l1.set i y).take (l1.length - 1)) := own_move hO5 (fun k hk => by
          obtain rfl : g = k := by simpa [Value.ownBlock] using hk
          exact Below.heap_setCell _ _ _ _ hpg.symm)
        have HO6 := Aside0.mk (own_move (w1 := (w5.setCell ⟨p, 0, none⟩ (.slice (some ⟨g, 0, none⟩) (l1.length - 1) c)).drew) hO6 (fun _ _ => rfl))
        have HP6 := Aside0.mk hP6
        have HT6 := Aside0.mk ((Below.heap_setCell w5 ⟨p, 0, none⟩ (.slice (some ⟨g, 0, none⟩) (l1.length - 1) c) _ hpne.symm).trans hT5)
        have HS6 := Aside0.mk (hS5.setCell (p := ⟨p, 0, none⟩) (.inl (.inl rfl)) (.slice (some ⟨g, 0, none⟩) (l1.length - 1) c)).drew
        have hL1 := lenAt_of HP1.out
        have hL6 := lenAt_of hP6
        have HL := Aside0.mk (show lenAt (w5.setCell ⟨p, 0, none⟩ (.slice (some ⟨g, 0, none⟩) (l1.length - 1) c)) p - (intOf (.int .i64 (i : Int))).toNat < lenAt wr p - (intOf (.int .i64 (i : Int))).toNat by rw [hL1, hL6]; simp [intOf]; omega)
        clear hP6 hO6 hP5 hT5 hO5 hS5 hL1 hL6
        go_region
        go_wp2
        have hl2 : ((l1.set i y).take (l1.length - 1)).length = l1.length - 1 := by rw [List.length_take, List.length_set]; omega
        refine ⟨⟨i, m1 ||| x, (l1.set i y).take (l1.length - 1), _, rfl, by omega, by omega, ⟨?_⟩, HM3, HR3, HP6.out, HT6.out, fun k hk => ?_, HO6.out, HS6⟩, HL.out⟩
        · rw [hl2, show l1.length - 1 - i = l1.length - i - 1 by omega]
          exact HGo.out.symm
        · obtain rfl : g = k := by simpa [Value.ownBlock] using hk
          exact hgw
    · obtain rfl : i = l1.length := by omega
      have hR : addL l m = l1 ++ [m1] := by rw [← HG.out, Nat.sub_self]; rfl
      have HRes := Aside0.mk hR
      have b0 : wr.cell? ⟨w.heap.size, 0, none⟩ = some (.int .u64 (m1 : Int)) := by rw [Lib.cell_of_heap hb1]; rfl
      have b1 : wr.cell? ⟨w.heap.size, 1, none⟩ = some (.pointer none) := by rw [Lib.cell_of_heap hb1]; rfl
      have z0 : wr.frozen? ⟨p, 0, none⟩ = false := Lib.frozen_of_heap hp1 _
      have hsz := blk_lt hb1
      have hA5 : p < base := hp
      have hbw : base ≤ wr.heap.size := by omega
      have HO7 := Aside0.mk hO1
      have HP7 := Aside0.mk hp1
      have hBr := Aside0.mk (Below.refl base wr)
      clear hR HG hO1
      go_wp2
      have hpr : p < wr.heap.size := by omega
      have hpr' : ¬ p = wr.heap.size := by omega
      go_region_law (go_loud (refine step_append_cells (w0 := wr) (W := wr.drew) base (by rfl) (.tmp 64) (.tmp 66) 50 55 (.agg #[.int .u64 0, .pointer none]) 2 16 (by rfl) Tryd.underlying50 info55 (by rfl) (by decide) (by decide) (.slice A l1.length c) l1.length (flat l1) [.int .u64 (m1 : Int), .pointer none] (by rfl) (by rfl) (by rfl) ?aO ?aR ?aB ?aS ?aL ?_; (case aO => intro u hu; simp at hu; rcases hu with rfl | rfl <;> rfl); (case aR => exact own_move HO7.out (fun _ _ => rfl)); (case aB => repeat (first | (with_reducible exact hBr.out) | (with_reducible apply below_drew) | (with_reducible apply pw_below_drewN) | (with_reducible apply below_drew1))); (case aS => exact hbw); (case aL => omega); intro v6 w6 ho hb6 hg6 hat; clear hg6 hat; obtain ⟨A6, c6, rfl⟩ := own_slice ho; have HO6 := Aside0.mk ho; have HB6 := Aside0.mk hb6; have k6 := (hb6.cell (p := ⟨p, 0, none⟩) hA5).trans q0; have z6 := (hb6.frozen (p := ⟨p, 0, none⟩) hA5).trans z0; clear ho hb6))
      all_goals go_end0
      all_goals
        have hP6 := (HB6.out.block p hA5).trans HP7.out
        have hOw : Own w6 base (.slice A6 (l1.length + 1) c6) (l1 ++ [m1]) := by
          have h := HO6.out
          unfold Own
          rw [List.length_append, flat_app]
          exact h
        have hS6 : Still (fun k => k = p ∨ base ≤ k) w w6 := HS1.out.trans ⟨HB6.out.os, HB6.out.tape, HB6.out.output, HB6.out.size, fun k _ hs => HB6.out.block k (by omega)⟩
        refine ⟨rfl, ⟨_, heap_set_at hP6 0 _, hp, ?_, ?_⟩, hS6.setCell (p := ⟨p, 0, none⟩) (.inl (.inl rfl)) _⟩
        · have := HB6.out.size
          simp [World.setCell]
          omega
        · rw [HRes.out]
          exact own_move hOw (fun k hk => Below.heap_setCell _ _ _ _ (by have := own_base hOw k hk; show k ≠ p; omega))
end Go.Proofs.YtlghbhkpdlkhjaaDoor.PEQ
