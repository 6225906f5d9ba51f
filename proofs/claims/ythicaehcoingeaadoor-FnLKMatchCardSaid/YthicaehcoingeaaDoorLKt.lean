/-
  Contract of LikeMatcher.Match: whether the nodes match the text. Condition: the ten characters of the law, at most 100; at most 12 nodes, their weights -1 or not below 0; utf8's two tables as laid.
-/
import Derived.Test.YthicaehcoingeaaDoorLKx
namespace Go.Proofs.YthicaehcoingeaaDoor.PLK
open Go.RowKit Go.Proofs.YthicaehcoingeaaDoorW.PrintWords Go.Proofs.YthicaehcoingeaaDoorW.PrintLast Go.Proofs.YthicaehcoingeaaDoorW.PrintMore
set_option linter.unusedVariables false
set_option linter.unusedSimpArgs false
set_option maxRecDepth 100000
set_option maxHeartbeats 800000

theorem wtN_get (ns : List ND) (k : Nat) : (wtN ns)[k]? = (ns[k]?).map fun x => x.map (·.2) := by unfold wtN; rw [List.getElem?_map]
/-- the inner loop: whether only nodes of any characters are left -/
theorem all_any (ns : List ND) (j : Nat) (o x : Int) (h : ns[j]? = some (some (o, x))) (i : Nat) (hi : i ≤ j) : ((wtN ns).drop i).all (·.isNone) = false := by
  obtain ⟨hj, he⟩ := List.getElem?_eq_some_iff.1 h
  rw [List.all_eq_false]
  refine ⟨some x, ?_, by simp⟩
  have h1 : (wtN ns)[j]? = some (some x) := by rw [wtN_get, h]; rfl
  have h2 : ((wtN ns).drop i)[j - i]? = some (some x) := by rw [List.getElem?_drop, show i + (j - i) = j by omega]; exact h1
  exact List.mem_of_getElem? h2
theorem base_up {w wr : World} {o : Obj} (h : Below (w.heap.size + 1) (w.alloc o) wr) : Below w.heap.size w wr := below_then (below_alloc (Below.refl _ _) _) (by simp) (by rwa [show (w.alloc o).heap.size = w.heap.size + 1 by simp])
theorem match_ok (fold : Bool) (ns : List ND) (A : Option Addr) (cA : Nat) (esc : Int) (l : List Int) (hl : l.all okR = true) (hll : l.length ≤ 100) (hnl : ns.length ≤ 12) (hwt : ∀ (k : Nat) (o x : Int), ns[k]? = some (some (o, x)) → x = -1 ∨ 0 ≤ x) (w : World) (hT : Glob w)
    (hN : Kd.C kN w A ns.length ns) :
    Calls Tryd.prog 45 #[.agg #[.slice A ns.length cA, colV fold, .int .i32 esc], .string (runesBytes l)] w fun e w' => e = .returned (.bool (mt (gF fold) (wtN ns) l)) ∧ Below w.heap.size w w' := by
  have HT := Aside0.mk hT
  have HN := Aside0.mk hN
  have HW := Aside0.mk hwt
  have HL := Aside0.mk hl
  clear hT hN hwt hl
  have hsz : off l l.length = (runesBytes l).size := off_all l
  have hmost := off_most l HL.out l.length (Nat.le_refl _)
  rw [hsz] at hmost
  have hlw : (wtN ns).length = ns.length := by unfold wtN; rw [List.length_map]
  generalize hcol : colV fold = col
  by_cases h0 : ns.length = 0
  · obtain rfl : ns = [] := List.length_eq_zero_iff.1 h0
    have hres : mt (gF fold) (wtN []) l = (((runesBytes l).size : Int) == 0) := by
      show l.isEmpty = _
      cases l with
      | nil => rfl
      | cons c t =>
        have := off_lt (c :: t) HL.out 0 (by simp)
        rw [show ((c :: t : List Int).isEmpty) = false from rfl]
        exact (beq_eq_false_iff_ne.2 (by rw [off_zero] at this; omega)).symm
    rw [hres]
    generalize (runesBytes l) = S at *
    cases hs0 : ((S.size : Int) == 0)
    all_goals
      go_enter Tryd.func45, Tryd.ntmps45
      go_wp2
      go_ret
      exact ⟨rfl, below_alloc (Below.refl _ _) _⟩
  · have g0 : ((ns.length : Int) == 0) = false := beq_eq_false_iff_ne.2 (by omega)
    have HM := Aside0.mk (fun W => mk_some W ns.length hnl)
    go_enter Tryd.func45, Tryd.ntmps45
    go_wp2_with (rw [HM.out])
    go_loopg [5, 6, 7] (mu ns.length l.length 0 0 0) (fun gk t5 t6 t7 wr => ∃ a q i : Nat, gk = mu ns.length l.length a q i ∧ t5 = .int .i64 ((off l (q + (i - a)) : Nat) : Int) ∧ t6 = .int .i64 (i : Int) ∧ Aside0 (Inv (gF fold) (wtN ns) l a q i) ∧ Aside0 (Stk l (w.heap.size + 1) wr t7 a q i) ∧ Aside0 (Below (w.heap.size + 1) (w.alloc (.cells #[.slice A ns.length cA, col, .int .i32 esc] 73)) wr))
    case atStart => exact ⟨0, 0, 0, rfl, rfl, rfl, ⟨Inv.start _ _ _⟩, ⟨Stk.start ns.length (by omega) (by simp)⟩, ⟨by have h := below_alloc (Below.refl ((w.alloc (.cells #[.slice A ns.length cA, col, .int .i32 esc] 73))).heap.size (w.alloc (.cells #[.slice A ns.length cA, col, .int .i32 esc] 73))) (.cells (Array.replicate ns.length (Value.int .i64 0)) 3); rwa [show ((w.alloc (.cells #[.slice A ns.length cA, col, .int .i32 esc] 73))).heap.size = w.heap.size + 1 by simp] at h⟩⟩
    case round =>
      obtain ⟨a, q, i, hgk, rfl, rfl, HI, HS, HB0⟩ := hrel
      obtain ⟨g, cap, xs, rfl, hx1, hx2', hg0, hx4'⟩ := HS.out
      have hx2 := Aside0.mk hx2'
      have HX := Aside0.mk hx4'
      clear hx2' hx4' HS
      have hws : w.heap.size + 1 ≤ wr.heap.size := by have := HB0.out.size; simpa using this
      have hai := HI.out.ai
      have hin : i ≤ ns.length := by rw [← hlw]; exact HI.out.i_n
      have hpl0 := HI.out.p_l
      have HBw := Aside0.mk (base_up HB0.out)
      have HTr := Aside0.mk (Glob.later HT.out HBw.out)
      have HNr := Aside0.mk (Kd.C_below HN.out HBw.out)
      have hc0 : wr.cell? ⟨w.heap.size, 0, none⟩ = some (.slice A ns.length cA) := (HB0.out.cell (p := ⟨w.heap.size, 0, none⟩) (by simp)).trans (by simp [go_sem])
      have hc1 : wr.cell? ⟨w.heap.size, 1, none⟩ = some col := (HB0.out.cell (p := ⟨w.heap.size, 1, none⟩) (by simp)).trans (by simp [go_sem])
      have hc2 : wr.cell? ⟨w.heap.size, 2, none⟩ = some (.int .i32 esc) := (HB0.out.cell (p := ⟨w.heap.size, 2, none⟩) (by simp)).trans (by simp [go_sem])
      have HO : Aside0 (∀ k, a ≤ k → k < i → ∃ o x, ns[k]? = some (some (o, x))) := ⟨fun k h1 h2 => by
        obtain ⟨x, c, h3, -, -⟩ := HI.out.ones (k - a) (by omega)
        rw [show a + (k - a) = k by omega, wtN_get] at h3
        obtain ⟨y, hy, hy2⟩ := Option.map_eq_some_iff.1 h3
        obtain ⟨z, rfl, hz2⟩ := Option.map_eq_some_iff.1 hy2
        exact ⟨z.1, z.2, hy⟩⟩
      have HD : Aside0 (0 < a → ns[a - 1]? = some none) := ⟨fun h => by
        have h3 := HI.out.node h
        rw [wtN_get] at h3
        obtain ⟨y, hy, hy2⟩ := Option.map_eq_some_iff.1 h3
        rw [Option.map_eq_none_iff] at hy2
        rw [hy, hy2]⟩
      clear HBw
      rcases Nat.lt_or_ge (q + (i - a)) l.length with hplt | hpge
      · have hpl := hplt
        have hof := off_lt l HL.out _ hplt
        rcases Nat.lt_or_ge i ns.length with hilt | hige
        · -- a character and a node
          have hlk : l[q + (i - a)]? = some l[q + (i - a)] := List.getElem?_eq_getElem hplt
          have hos := off_succ l _ _ hlk
          have hok := List.all_eq_true.1 HL.out _ (List.getElem_mem hplt)
          have hne := okR_ne _ hok
          have hE : (((off l (q + (i - a)) : Nat) : Int) == ((runesBytes l).size : Int)) = false := beq_eq_false_iff_ne.2 (by omega)
          have hL : (decide (((off l (q + (i - a)) : Nat) : Int) < ((runesBytes l).size : Int))) = true := decide_eq_true (by omega)
          have hI : ((i : Int) == (ns.length : Int)) = false := beq_eq_false_iff_ne.2 (by omega)
          have HDC := Aside0.mk (fun W hW => dec_call l HL.out _ _ hlk W hW)
          have hdl : Aside0 (l.drop (q + (i - a)) = l[q + (i - a)] :: l.drop (q + (i - a) + 1)) := ⟨List.drop_eq_getElem_cons hplt⟩
          have hlk' := Aside0.mk hlk
          obtain ⟨nd, hnd⟩ : ∃ nd, ns[i]? = some nd := ⟨_, List.getElem?_eq_getElem hilt⟩
          have hnd' : (wtN ns)[i]? = some (nd.map (·.2)) := by rw [wtN_get, hnd]; rfl
          have hdn : Aside0 ((wtN ns).drop i = nd.map (·.2) :: (wtN ns).drop (i + 1)) := ⟨drop_at _ _ _ hnd'⟩
          have HND := Aside0.mk hnd'
          clear hlk hnd'
          generalize hc : l[q + (i - a)] = c at *
          generalize hoff : off l (q + (i - a)) = f at *
          have hblen := (bt_len c hok).2
          clear hc
          go_wp2_with fail
          refine (HDC.out _ HTr.out).mono ?_
          rintro e w2 ⟨rfl, hb⟩
          replace HB0 := Aside0.mk (below_then HB0.out hws hb)
          replace hws : w.heap.size + 1 ≤ w2.heap.size := by have := HB0.out.size; simpa using this
          replace hc0 := (hb.cell (World.block_lt_of_cell? wr _ hc0)).trans hc0
          replace hc1 := (hb.cell (World.block_lt_of_cell? wr _ hc1)).trans hc1
          replace hc2 := (hb.cell (World.block_lt_of_cell? wr _ hc2)).trans hc2
          replace hx2 := Aside0.mk (Kd.R_below hx2.out hb)
          replace HTr := Aside0.mk (Glob.later HTr.out hb)
          replace HNr := Aside0.mk (Kd.C_below HNr.out hb)
          clear HDC hb
          obtain ⟨ad, hA, hcn⟩ := at_N HNr.out i _ hnd hilt
          subst hA
          cases nd with
          | none =>
            have hcn' : w2.cell? (ad.add i) = some (.iface 109 (.agg #[])) := hcn
            clear hcn hmost
            have HMX := Aside0.mk (fun W => match_any col c W)
            go_wp2
            go_region_held3 (fun W => W.cell? ⟨w.heap.size, 0, none⟩ = some (.slice (some ad) ns.length cA) ∧ W.cell? ⟨w.heap.size, 1, none⟩ = some col ∧ W.cell? (ad.add i) = some (.iface 109 (.agg #[])) ∧ Below w2.heap.size w2 W)
              (first | (go_split_ands; refine ⟨?_, ?_, ?_, ?_⟩ <;> assumption) | (go_split_ands; exact ⟨pw_cell_below hb (by assumption), pw_cell_below hb (by assumption), pw_cell_below hb (by assumption), below_step (by assumption) hb⟩) | (refine ⟨?_, ?_, ?_, ?_⟩; (iterate 3 (focus (first | assumption | (simp [go_sem]; done) | (simp [go_sem, *]; done)))); repeat (first | (with_reducible exact Below.refl _ _) | (with_reducible apply below_alloc) | (with_reducible apply below_drew))))
              (first | ((with_reducible refine (HMX.out _).mono ?_); rintro e w3 ⟨rfl, hb⟩))
            all_goals
              have hb3 := (by assumption : w3.cell? ⟨w.heap.size, 0, none⟩ = some (.slice (some ad) ns.length cA) ∧ w3.cell? ⟨w.heap.size, 1, none⟩ = some col ∧ w3.cell? (ad.add i) = some (.iface 109 (.agg #[])) ∧ Below w2.heap.size w2 w3).2.2.2
              have HX3 := Aside0.mk (Kd.R_below hx2.out hb3)
              have HB3 := Aside0.mk (below_then HB0.out hws hb3)
              have hws3 : w.heap.size + 1 ≤ w3.heap.size := by have := HB3.out.size; simpa using this
              clear hb3
              generalize Value.slice (some ⟨g, 0, none⟩) i cap = v7 at *
              go_wp2_with (first | ((with_reducible refine gate_builtin (b := .append) (xs := #[.tmp 122, .tmp 124]) rfl ?_); at_builtin; refine Kd.R_append (Kd.int .i64) (w0 := (w.alloc (.cells #[.slice (some ad) ns.length cA, col, .int .i32 esc] 73))) (w.heap.size + 1) rfl (.tmp 122) (.tmp 124) 79 3 (.int .i64 0) 8 rfl Tryd.underlying79 infoI64 rfl (by decide) (by omega) v7 xs (f : Int) [.int .i64 (f : Int)] (fun _ => True) (fun _ => False) rfl rfl ?aP (fun _ hk => hk.elim) ?aF ?aO ?aB ?aS ?aL ?_; (case aP => exact rfl); (case aF => exact (fun _ _ => trivial)); (case aO => exact HX3.out); (case aB => exact HB3.out); (case aS => exact hws3); (case aL => omega); intro v1 w5 ho hb5 hg5 hat; clear hg5 hat; have HO5 := Aside0.mk ho; have HB5 := Aside0.mk hb5; clear ho hb5))
              go_roundg (mu ns.length l.length (i + 1) (q + (i - a)) (i + 1))
              case measure => rw [hgk]; exact mu_any _ _ _ _ _ _ hilt hai
              case rel => exact ⟨i + 1, q + (i - a), i + 1, rfl, by rw [Nat.sub_self, Nat.add_zero, hoff], by go_num, ⟨HI.out.any HND.out⟩, ⟨Stk.push_any hx1 (by rw [hoff]; exact HO5.out)⟩, HB5⟩
          | some ox =>
            obtain ⟨o, x⟩ := ox
            have hcn' : w2.cell? (ad.add i) = some (.iface 108 (.agg #[.int .i32 o, .int .i32 x])) := hcn
            clear hcn
            have HMX0 := Aside0.mk (fun W => match_tk fold o x c hok (HW.out i o x hnd) W)
            cases htk : tk (gF fold) x c
            · have HMX := Aside0.mk (fun W => show Calls Tryd.prog 171 #[.agg #[.int .i32 o, .int .i32 x], col, .int .i32 c] W (fun e w' => e = .returned (.tuple #[.bool false, .bool false]) ∧ Below W.heap.size W w') by have h := HMX0.out W; rwa [htk, hcol] at h)
              have hmf : Aside0 (mt (gF fold) ((wtN ns).drop i) (l.drop (q + (i - a))) = false) := ⟨by
                rw [hdn.out, hdl.out]
                show (tk (gF fold) x c && mt (gF fold) ((wtN ns).drop (i + 1)) (l.drop (q + (i - a) + 1))) = false
                rw [htk]
                rfl⟩
              clear HMX0 htk
              go_wp2
              go_region_held3 (fun W => W.cell? ⟨w.heap.size, 0, none⟩ = some (.slice (some ad) ns.length cA) ∧ W.cell? ⟨w.heap.size, 1, none⟩ = some col ∧ W.cell? (ad.add i) = some (.iface 108 (.agg #[.int .i32 o, .int .i32 x])) ∧ Below w2.heap.size w2 W)
                (first | (go_split_ands; refine ⟨?_, ?_, ?_, ?_⟩ <;> assumption) | (go_split_ands; exact ⟨pw_cell_below hb (by assumption), pw_cell_below hb (by assumption), pw_cell_below hb (by assumption), below_step (by assumption) hb⟩) | (refine ⟨?_, ?_, ?_, ?_⟩; (iterate 3 (focus (first | assumption | (simp [go_sem]; done) | (simp [go_sem, *]; done)))); repeat (first | (with_reducible exact Below.refl _ _) | (with_reducible apply below_alloc) | (with_reducible apply below_drew))))
                (first | ((with_reducible refine (HMX.out _).mono ?_); rintro e w3 ⟨rfl, hb⟩))
              all_goals
                have hb3 := (by assumption : w3.cell? ⟨w.heap.size, 0, none⟩ = some (.slice (some ad) ns.length cA) ∧ w3.cell? ⟨w.heap.size, 1, none⟩ = some col ∧ w3.cell? (ad.add i) = some (.iface 108 (.agg #[.int .i32 o, .int .i32 x])) ∧ Below w2.heap.size w2 w3).2.2.2
                replace HB0 := Aside0.mk (below_then HB0.out hws hb3)
                replace hws : w.heap.size + 1 ≤ w3.heap.size := by have := HB0.out.size; simpa using this
                replace hc0 := (hb3.cell (World.block_lt_of_cell? w2 _ hc0)).trans hc0
                replace hc1 := (hb3.cell (World.block_lt_of_cell? w2 _ hc1)).trans hc1
                replace hc2 := (hb3.cell (World.block_lt_of_cell? w2 _ hc2)).trans hc2
                replace hx2 := Aside0.mk (Kd.R_below hx2.out hb3)
                replace HTr := Aside0.mk (Glob.later HTr.out hb3)
                replace HNr := Aside0.mk (Kd.C_below HNr.out hb3)
                clear hb3
                have HBK := Aside0.mk (backtrack_ok ns (some ad) cA col esc l HL.out hll (by omega) w3 HTr.out HNr.out (i : Int) a q i g cap (.inl rfl) hai hin hpl HO.out HD.out (fun k hk hak => Stk.cells hx1 hx2.out HX.out k hk hak))
                go_wp2_with fail
                refine HBK.out.mono ?_
                rintro e w4 ⟨hz, hp⟩
                rcases Nat.eq_zero_or_pos a with ha0 | ha0
                · obtain ⟨rfl, hb⟩ := hz ha0
                  have HB4 := Aside0.mk (base_up (below_then HB0.out hws hb))
                  have hm : mt (gF fold) (wtN ns) l = false := by
                    subst ha0
                    refine HI.out.fails ?_
                    have h := hmf.out
                    rwa [Nat.sub_zero] at h
                  clear hz hp
                  go_wp2_with fail
                  go_ret
                  exact ⟨by first | rfl | (rw [hm]; rfl), HB4.out⟩
                · obtain ⟨rfl, w3, hb, rfl⟩ := hp ha0
                  have hx3 := Kd.R_below hx2.out hb
                  have HS4 := Aside0.mk (Stk.cut (q := q) (l := l) (a := a) hx1 hx3 hg0 ha0 hai)
                  have HB4 := Aside0.mk ((below_then HB0.out hws hb).setCell (p := ⟨g, a - 1, none⟩) hg0 (.int .i64 ((off l (q + 1) : Nat) : Int)))
                  have HI4 := Aside0.mk (HI.out.back ha0 hmf.out hplt)
                  have hcp : a ≤ cap := Nat.le_trans hai (Kd.R_reads' hx3).2.1
                  obtain ⟨a', rfl⟩ : ∃ a', a = a' + 1 := ⟨a - 1, by omega⟩
                  have hc4 : (w3.setCell ⟨g, a' + 1 - 1, none⟩ (.int .i64 ((off l (q + 1) : Nat) : Int))).cell? ⟨g, a', none⟩ = some (.int .i64 ((off l (q + 1) : Nat) : Int)) := by
                    obtain ⟨g', cap', xs', e1, e2, e3, e4, e5⟩ := HS4.out
                    obtain ⟨rfl, rfl⟩ : g' = g ∧ cap' = cap := by injection e1 with e _ e'; injection e with e; injection e with e; exact ⟨e.symm, e'.symm⟩
                    have h := (Stk.cells e2 e3 e5 a' (by omega) (by omega)).1
                    rwa [Nat.sub_self, Nat.add_zero] at h
                  clear hz hp hb hx3 HO HD HX hx2
                  generalize hw4 : w3.setCell ⟨g, a' + 1 - 1, none⟩ (.int .i64 ((off l (q + 1) : Nat) : Int)) = w4 at *
                  generalize hf4 : off l (q + 1) = f4 at *
                  go_wp2_with fail
                  go_roundg (mu ns.length l.length (a' + 1) (q + 1) (a' + 1))
                  case measure => rw [hgk]; exact mu_back _ _ _ _ _ (by omega) hin
                  case rel => exact ⟨a' + 1, q + 1, a' + 1, rfl, by rw [Nat.sub_self, Nat.add_zero, hf4], by go_num, HI4, HS4, HB4⟩
            · have HMX := Aside0.mk (fun W => show Calls Tryd.prog 171 #[.agg #[.int .i32 o, .int .i32 x], col, .int .i32 c] W (fun e w' => e = .returned (.tuple #[.bool true, .bool true]) ∧ Below W.heap.size W w') by have h := HMX0.out W; rwa [htk, hcol] at h)
              have HTK := Aside0.mk htk
              clear HMX0 htk
              go_wp2
              go_region_held3 (fun W => W.cell? ⟨w.heap.size, 0, none⟩ = some (.slice (some ad) ns.length cA) ∧ W.cell? ⟨w.heap.size, 1, none⟩ = some col ∧ W.cell? (ad.add i) = some (.iface 108 (.agg #[.int .i32 o, .int .i32 x])) ∧ Below w2.heap.size w2 W)
                (first | (go_split_ands; refine ⟨?_, ?_, ?_, ?_⟩ <;> assumption) | (go_split_ands; exact ⟨pw_cell_below hb (by assumption), pw_cell_below hb (by assumption), pw_cell_below hb (by assumption), below_step (by assumption) hb⟩) | (refine ⟨?_, ?_, ?_, ?_⟩; (iterate 3 (focus (first | assumption | (simp [go_sem]; done) | (simp [go_sem, *]; done)))); repeat (first | (with_reducible exact Below.refl _ _) | (with_reducible apply below_alloc) | (with_reducible apply below_drew))))
                (first | ((with_reducible refine (HMX.out _).mono ?_); rintro e w3 ⟨rfl, hb⟩))
              all_goals
                have hb3 := (by assumption : w3.cell? ⟨w.heap.size, 0, none⟩ = some (.slice (some ad) ns.length cA) ∧ w3.cell? ⟨w.heap.size, 1, none⟩ = some col ∧ w3.cell? (ad.add i) = some (.iface 108 (.agg #[.int .i32 o, .int .i32 x])) ∧ Below w2.heap.size w2 w3).2.2.2
                have HX3 := Aside0.mk (Kd.R_below hx2.out hb3)
                have HB3 := Aside0.mk (below_then HB0.out hws hb3)
                have hws3 : w.heap.size + 1 ≤ w3.heap.size := by have := HB3.out.size; simpa using this
                clear hb3
                generalize Value.slice (some ⟨g, 0, none⟩) i cap = v7 at *
                go_wp2_with (first | ((with_reducible refine gate_builtin (b := .append) (xs := #[.tmp 122, .tmp 124]) rfl ?_); at_builtin; refine Kd.R_append (Kd.int .i64) (w0 := (w.alloc (.cells #[.slice (some ad) ns.length cA, col, .int .i32 esc] 73))) (w.heap.size + 1) rfl (.tmp 122) (.tmp 124) 79 3 (.int .i64 0) 8 rfl Tryd.underlying79 infoI64 rfl (by decide) (by omega) v7 xs ((f : Int) + ((bt c).length : Int)) [.int .i64 ((f : Int) + ((bt c).length : Int))] (fun _ => True) (fun _ => False) rfl rfl ?aP (fun _ hk => hk.elim) ?aF ?aO ?aB ?aS ?aL ?_; (case aP => exact rfl); (case aF => exact (fun _ _ => trivial)); (case aO => exact HX3.out); (case aB => exact HB3.out); (case aS => exact hws3); (case aL => omega); intro v1 w5 ho hb5 hg5 hat; clear hg5 hat; have HO5 := Aside0.mk ho; have HB5 := Aside0.mk hb5; clear ho hb5))
                have hv : ((off l (q + (i + 1 - a)) : Nat) : Int) = (f : Int) + ((bt c).length : Int) := by rw [show q + (i + 1 - a) = q + (i - a) + 1 by omega, hos]; omega
                go_roundg (mu ns.length l.length a q (i + 1))
                case measure => rw [hgk]; exact mu_one _ _ _ _ _ hilt
                case rel => exact ⟨a, q, i + 1, rfl, by rw [hv], by go_num, ⟨HI.out.one HND.out hlk'.out HTK.out⟩, ⟨Stk.push hx1 (by rw [hv]; exact HO5.out) HX.out⟩, HB5⟩
        · -- all nodes have matched, and characters are left
          have hie : i = ns.length := by omega
          have hE : (((off l (q + (i - a)) : Nat) : Int) == ((runesBytes l).size : Int)) = false := beq_eq_false_iff_ne.2 (by omega)
          have hL : (decide (((off l (q + (i - a)) : Nat) : Int) < ((runesBytes l).size : Int))) = true := decide_eq_true (by omega)
          have hI : ((i : Int) == (ns.length : Int)) = true := beq_iff_eq.2 (by omega)
          have hmf : Aside0 (mt (gF fold) ((wtN ns).drop i) (l.drop (q + (i - a))) = false) := ⟨by
            rw [List.drop_eq_nil_of_le (by omega), List.drop_eq_getElem_cons hplt]
            rfl⟩
          clear hie hige
          generalize hoff : off l (q + (i - a)) = f at *
          have HBK := Aside0.mk (backtrack_ok ns A cA col esc l HL.out hll (by omega) wr HTr.out HNr.out ((i : Int) - 1) a q i g cap (.inr rfl) hai hin hpl HO.out HD.out (fun k hk hak => Stk.cells hx1 hx2.out HX.out k hk hak))
          go_wp2_with fail
          refine HBK.out.mono ?_
          rintro e w4 ⟨hz, hp⟩
          rcases Nat.eq_zero_or_pos a with ha0 | ha0
          · obtain ⟨rfl, hb⟩ := hz ha0
            have HB4 := Aside0.mk (base_up (below_then HB0.out hws hb))
            have hm : mt (gF fold) (wtN ns) l = false := by
              subst ha0
              refine HI.out.fails ?_
              have h := hmf.out
              rwa [Nat.sub_zero] at h
            clear hz hp
            go_wp2_with fail
            go_ret
            exact ⟨by first | rfl | (rw [hm]; rfl), HB4.out⟩
          · obtain ⟨rfl, w3, hb, rfl⟩ := hp ha0
            have hx3 := Kd.R_below hx2.out hb
            have HS4 := Aside0.mk (Stk.cut (q := q) (l := l) (a := a) hx1 hx3 hg0 ha0 hai)
            have HB4 := Aside0.mk ((below_then HB0.out hws hb).setCell (p := ⟨g, a - 1, none⟩) hg0 (.int .i64 ((off l (q + 1) : Nat) : Int)))
            have HI4 := Aside0.mk (HI.out.back ha0 hmf.out hplt)
            have hcp : a ≤ cap := Nat.le_trans hai (Kd.R_reads' hx3).2.1
            obtain ⟨a', rfl⟩ : ∃ a', a = a' + 1 := ⟨a - 1, by omega⟩
            have hc4 : (w3.setCell ⟨g, a' + 1 - 1, none⟩ (.int .i64 ((off l (q + 1) : Nat) : Int))).cell? ⟨g, a', none⟩ = some (.int .i64 ((off l (q + 1) : Nat) : Int)) := by
              obtain ⟨g', cap', xs', e1, e2, e3, e4, e5⟩ := HS4.out
              obtain ⟨rfl, rfl⟩ : g' = g ∧ cap' = cap := by injection e1 with e _ e'; injection e with e; injection e with e; exact ⟨e.symm, e'.symm⟩
              have h := (Stk.cells e2 e3 e5 a' (by omega) (by omega)).1
              rwa [Nat.sub_self, Nat.add_zero] at h
            clear hz hp hb hx3 HO HD HX hx2
            generalize hw4 : w3.setCell ⟨g, a' + 1 - 1, none⟩ (.int .i64 ((off l (q + 1) : Nat) : Int)) = w4 at *
            generalize hf4 : off l (q + 1) = f4 at *
            go_wp2_with fail
            go_roundg (mu ns.length l.length (a' + 1) (q + 1) (a' + 1))
            case measure => rw [hgk]; exact mu_back _ _ _ _ _ (by omega) hin
            case rel => exact ⟨a' + 1, q + 1, a' + 1, rfl, by rw [Nat.sub_self, Nat.add_zero, hf4], by go_num, HI4, HS4, HB4⟩
      · have hpe : q + (i - a) = l.length := by omega
        have hm := HI.out.ends hpe
        rw [hpe, hsz] at *
        rw [mt_nil] at hm
        have hE : (((runesBytes l).size : Int) == ((runesBytes l).size : Int)) = true := by simp
        have hL : (decide (((runesBytes l).size : Int) < ((runesBytes l).size : Int))) = false := decide_eq_false (by omega)
        rcases Nat.lt_or_ge i ns.length with hilt | hige
        · have hI : ((i : Int) == (ns.length : Int)) = false := beq_eq_false_iff_ne.2 (by omega)
          have hI2 : (decide ((i : Int) < (ns.length : Int))) = true := decide_eq_true (by omega)
          have hmC := Aside0.mk hm
          clear hm
          go_wp2_with fail
          go_loopw [6] (fun t w2 => ∃ j : Nat, t = .int .i64 (j : Int) ∧ i ≤ j ∧ j ≤ ns.length ∧ Aside0 (∀ k, i ≤ k → k < j → ns[k]? = some none) ∧ Aside0 (Below (w.heap.size + 1) (w.alloc (.cells #[.slice A ns.length cA, col, .int .i32 esc] 73)) w2)) (fun t _ => ns.length - (intOf t).toNat)
          case atStart => exact ⟨i, rfl, Nat.le_refl _, hin, ⟨fun k h1 h2 => absurd h1 (by omega)⟩, HB0⟩
          case round =>
            clear hc0 hc1 hc2 HNr HTr hI hI2 hE hL HB0 hx2 HX HO HD
            obtain ⟨j, rfl, hij, hjn, HJ, HB5⟩ := hrel
            have hc0 : wr.cell? ⟨w.heap.size, 0, none⟩ = some (.slice A ns.length cA) := (HB5.out.cell (p := ⟨w.heap.size, 0, none⟩) (by simp)).trans (by simp [go_sem])
            have hs5 : w.heap.size + 1 ≤ wr.heap.size := by have := HB5.out.size; simpa using this
            have HN5 := Aside0.mk (Kd.C_below HN.out (base_up HB5.out))
            rcases Nat.lt_or_ge j ns.length with hjlt | hjge
            · obtain ⟨nd, hnd⟩ : ∃ nd, ns[j]? = some nd := ⟨_, List.getElem?_eq_getElem hjlt⟩
              obtain ⟨ad, hA, hcn⟩ := at_N HN5.out j _ hnd hjlt
              subst hA
              have hJ : (decide ((j : Int) < (ns.length : Int))) = true := decide_eq_true (by omega)
              cases nd with
              | none =>
                have hcn' : wr.cell? (ad.add j) = some (.iface 109 (.agg #[])) := hcn
                have HJ2 : Aside0 (∀ k, i ≤ k → k < j + 1 → ns[k]? = some none) := ⟨fun k h1 h2 => by
                  rcases Nat.lt_or_ge k j with h | h
                  · exact HJ.out k h1 h
                  · obtain rfl : k = j := by omega
                    exact hnd⟩
                clear hcn HJ hnd
                go_wp2
                go_roundw
                case rel => exact ⟨j + 1, by go_num, by omega, by omega, HJ2, ⟨below_then HB5.out hs5 (below_alloc (Below.refl _ _) _)⟩⟩
                case measure => simp [intOf]; omega
              | some ox =>
                obtain ⟨o, x⟩ := ox
                have hcn' : wr.cell? (ad.add j) = some (.iface 108 (.agg #[.int .i32 o, .int .i32 x])) := hcn
                have hm : mt (gF fold) (wtN ns) l = false := by rw [hmC.out]; exact all_any ns j o x hnd i hij
                clear hcn HJ hnd
                go_wp2
                go_ret
                exact ⟨by first | rfl | (rw [hm]; rfl), base_up (below_then HB5.out hs5 (below_alloc (Below.refl _ _) _))⟩
            · have hje : j = ns.length := by omega
              have hm : mt (gF fold) (wtN ns) l = true := by
                rw [hmC.out, List.all_eq_true]
                intro y hy
                obtain ⟨k, hk⟩ := List.mem_iff_getElem?.1 hy
                rw [List.getElem?_drop, wtN_get] at hk
                obtain ⟨z, hz, rfl⟩ := Option.map_eq_some_iff.1 hk
                have hlt := (List.getElem?_eq_some_iff.1 hz).1
                rw [HJ.out (i + k) (by omega) (by omega)] at hz
                obtain rfl := Option.some.inj hz
                rfl
              have hJ : (decide ((j : Int) < (ns.length : Int))) = false := decide_eq_false (by omega)
              have hnlt : ¬ j < ns.length := by omega
              clear hje hjge
              go_wp2
              go_ret
              exact ⟨by first | rfl | (rw [hm]; rfl), base_up HB5.out⟩
        · obtain rfl : i = ns.length := by omega
          have hm2 : mt (gF fold) (wtN ns) l = true := by rw [hm, List.drop_eq_nil_of_le (by omega)]; rfl
          clear hm
          go_wp2_with fail
          go_ret
          exact ⟨by first | rfl | (rw [hm2]; rfl), base_up HB0.out⟩
end Go.Proofs.YthicaehcoingeaaDoor.PLK
