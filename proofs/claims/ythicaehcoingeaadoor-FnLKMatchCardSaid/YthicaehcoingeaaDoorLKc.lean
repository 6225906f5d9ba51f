/-
  Contract of ConstructLikeMatcher at a pattern that doesn't end with the escape character. Condition: the ten characters of the law, at most 12; utf8's two tables as laid.
-/
import Derived.Test.YthicaehcoingeaaDoorLKx
import Derived.Laws.EntriesVeiled
import Derived.Deep.RegionLaw
import Derived.Lib.Builder
namespace Go.Proofs.YthicaehcoingeaaDoor.PLK
open Go.RowKit Go.Proofs.YthicaehcoingeaaDoorW.PrintWords Go.Proofs.YthicaehcoingeaaDoorW.PrintLast Go.Proofs.YthicaehcoingeaaDoorW.PrintMore
set_option linter.unusedVariables false
set_option linter.unusedSimpArgs false
set_option maxRecDepth 100000
set_option maxHeartbeats 4000000

open Go in
/-- A call of a function value in a region that draws its order. -/
theorem goesV_ {P : Program} {ops : Array Oper} {Q : Exit → Act → World → Prop} {oi : Oper} {N : Option Tmp} {a : Act} {w : World} {K : Act → World → Prop} {f : FuncId} {fn : Func} {x : Operand} {es : Array Operand} {ts : Array TypeId} (hf : P.funcs[f]? = some fn) (hname : (fn.name == "runtime.NumGoroutine") = false) (hb : fn.body.isSome = true) (args : Array Value)
    (hw : Region.wanted oi (yielded ops a.tmps) = true) (hN : oi.dst = N) (hop : oi.op = .call { callee := .value x, args := es, argTypes := ts }) (hx : a.eval x = .func (.func f) #[] #[]) (hargs : es.map a.eval = args)
    (h : Calls P f args w fun e w' => ∃ v, e = .returned v ∧ K (a.put N v) w') : if Region.wanted oi (yielded ops a.tmps) = true then Oper.wp P oi a w K Q else K (a.put N undef) w := by
  refine call_ f args hw hN ?_ h
  have he := enters_ hf hname hb args w
  unfold execOp
  simp [hop, hx, resolve, Deferred.ofValue, invoke, hargs, he]
theorem infoN : (Tryd.prog.info? 114).map (fun i => (i.zero, i.size, i.bytes)) = some (some .nilIface, 1, 16) := by kernel_rfl
structure CS (w wr : World) (fid : Nat) (ns : List ND) : Prop where
  below : Below w.heap.size w wr
  size : w.heap.size + 2 ≤ wr.heap.size
  b6 : wr.heap[w.heap.size]? = some (.cells #[.slice none 0 0, .nilFunc, .int .i32 0] 73 (0, 0))
  b9 : ∃ v, wr.heap[w.heap.size + 1]? = some (.cells #[v, .func (.func fid) #[] #[], .int .i32 92] 73 (0, 0)) ∧ Kd.R kN 114 wr (w.heap.size + 2) (fun _ => True) v ns
theorem CS.later {w wr wr' : World} {fid : Nat} {ns : List ND} (h : CS w wr fid ns) (hb : Below wr.heap.size wr wr') : CS w wr' fid ns := by
  obtain ⟨h1, h2, h3, v, h4, h5⟩ := h
  exact ⟨below_then h1 h1.size hb, Nat.le_trans h2 hb.size, (hb.block _ (by omega)).trans h3, v, (hb.block _ (by omega)).trans h4, Kd.R_below h5 hb⟩
theorem cell_b9 {w5 w2 : World} {B : Nat} {v : Value} {fid : Nat} (h : w5.heap[B]? = w2.heap[B]?) (h9 : w2.heap[B]? = some (.cells #[v, .func (.func fid) #[] #[], .int .i32 92] 73 (0, 0))) : w5.cell? ⟨B, 0, none⟩ = some v := by
  rw [Lib.cell_of_heap (h.trans h9)]; rfl
theorem frozen_b9 {w5 w2 : World} {B : Nat} {v : Value} {fid : Nat} (h : w5.heap[B]? = w2.heap[B]?) (h9 : w2.heap[B]? = some (.cells #[v, .func (.func fid) #[] #[], .int .i32 92] 73 (0, 0))) : w5.frozen? ⟨B, 0, none⟩ = false := Lib.frozen_of_heap (h.trans h9) _
theorem CS.put {w w2 w5 : World} {fid : Nat} {ns ns1 : List ND} {v1 : Value} (h : CS w w2 fid ns) (hb : Below (w.heap.size + 2) w2 w5) (hr : Kd.R kN 114 w5 (w.heap.size + 2) (fun _ => True) v1 ns1) :
    CS w (w5.setCell ⟨w.heap.size + 1, 0, none⟩ v1) fid ns1 := by
  obtain ⟨h1, h2, h3, v, h4, h5⟩ := h
  have h6 := (hb.block (w.heap.size + 1) (by omega)).trans h4
  refine ⟨?_, ?_, ?_, v1, ?_, ?_⟩
  · exact (h1.trans (hb.mono (by omega))).setCell (p := ⟨w.heap.size + 1, 0, none⟩) (by simp) _
  · have := hb.size; simp [World.setCell]; omega
  · rw [Below.heap_setCell _ _ _ _ (by simp), hb.block _ (by omega)]; exact h3
  · simp [World.setCell, h6, Array.getElem?_modify]
  · have hr2 := Kd.R_mono (Kd.R_bound hr) (fun k hk => (⟨trivial, hk.2.1⟩ : True ∧ w.heap.size + 2 ≤ k))
    exact Kd.R_mono (Kd.R_far hr2 (p := ⟨w.heap.size + 1, 0, none⟩) (fun k hk => by have := hk.2; simp; omega) v1) (fun _ _ => trivial)
theorem wtN_snoc (ns : List ND) (y : ND) : wtN (ns ++ [y]) = wtN ns ++ [y.map (·.2)] := by unfold wtN; rw [List.map_append]; rfl
theorem nodes_step {g : Int → Int} {p : List Int} {k k' : Nat} {ns : List ND} {y : ND} (h : nodes g p = (nodes g (p.drop k)).map (wtN ns ++ ·)) (h2 : nodes g (p.drop k) = (nodes g (p.drop k')).map (y.map (·.2) :: ·)) :
    nodes g p = (nodes g (p.drop k')).map (wtN (ns ++ [y]) ++ ·) := by
  rw [h, h2, Option.map_map, wtN_snoc]
  congr 1
  funext M
  simp
theorem wt_snoc {ns : List ND} {y : ND} (h : ∀ (j : Nat) (o x : Int), ns[j]? = some (some (o, x)) → x = -1 ∨ 0 ≤ x) (hy : ∀ o x, y = some (o, x) → x = -1 ∨ 0 ≤ x) : ∀ (j : Nat) (o x : Int), (ns ++ [y])[j]? = some (some (o, x)) → x = -1 ∨ 0 ≤ x := by
  intro j o x hj
  rcases Nat.lt_or_ge j ns.length with hl | hl
  · rw [List.getElem?_append_left hl] at hj
    exact h j o x hj
  · rw [List.getElem?_append_right hl] at hj
    rcases Nat.eq_zero_or_pos (j - ns.length) with h0 | h0
    · rw [h0] at hj
      exact hy o x (Option.some.inj hj)
    · rw [List.getElem?_eq_none (by simp; omega)] at hj
      cases hj

theorem construct_true (p : List Int) (N : List (Option Int)) (hp : p.all okR = true) (hpl : p.length ≤ 12) (hgood : nodes (gF true) p = some N) (w : World) (hT : Glob w) :
    Calls Tryd.prog 44 #[.func (.func 43) #[] #[], .string (runesBytes p), .int .i32 92] w fun e w' => ∃ (ns : List ND) (A : Option Addr) (cA : Nat), e = .returned (.tuple #[.agg #[.slice A ns.length cA, .func (.func 43) #[] #[], .int .i32 92], .nilIface]) ∧
      wtN ns = N ∧ ns.length ≤ 12 ∧ (∀ (j : Nat) (o x : Int), ns[j]? = some (some (o, x)) → x = -1 ∨ 0 ≤ x) ∧ Kd.C kN w' A ns.length ns ∧ Below w.heap.size w w' := by
  have HF : Aside0 (∀ (c : Int) (hc : okR c = true) (W : World), Calls Tryd.prog 43 #[.int .i32 c] W fun e w' => e = .returned (.int .i32 (gF true c)) ∧ Below W.heap.size W w') := ⟨fun c hc W => col_ok true c hc W⟩
  have HT := Aside0.mk hT
  have HP := Aside0.mk hp
  have HG := Aside0.mk hgood
  clear hT hp hgood
  have hsz : off p p.length = (runesBytes p).size := off_all p
  have hmost := off_most p HP.out p.length (Nat.le_refl _)
  rw [hsz] at hmost
  go_enter Tryd.func44, Tryd.ntmps44
  go_wp2_with fail
  go_loopw [10] (fun t wr => ∃ (k : Nat) (ns : List ND), t = .int .i64 ((off p k : Nat) : Int) ∧ k ≤ p.length ∧ ns.length ≤ k ∧ Aside0 (nodes (gF true) p = (nodes (gF true) (p.drop k)).map (wtN ns ++ ·)) ∧ Aside0 (∀ (j : Nat) (o x : Int), ns[j]? = some (some (o, x)) → x = -1 ∨ 0 ≤ x) ∧ Aside0 (CS w wr 43 ns)) (fun t _ => (runesBytes p).size - (intOf t).toNat)
  case atStart =>
    refine ⟨0, [], rfl, Nat.zero_le _, Nat.le_refl _, ⟨?_⟩, ⟨fun j o x h => by simp at h⟩, ⟨?_⟩⟩
    · rw [List.drop_zero]
      cases nodes (gF true) p <;> rfl
    · refine ⟨?_, by simp, ?_, .slice none 0 0, ?_, Kd.R_nil _ _ _ _ _⟩
      · exact below_then (below_alloc (Below.refl _ _) _) (by simp) (below_alloc (Below.refl _ _) _)
      · rw [(below_alloc (Below.refl _ _) _).block _ (by simp)]
        exact heap_alloc_new _ _
      · have h := heap_alloc_new (w.alloc (.cells #[.slice none 0 0, .nilFunc, .int .i32 0] 73)) (.cells #[.slice none 0 0, .func (.func 43) #[] #[], .int .i32 92] 73)
        rwa [show (w.alloc (.cells #[.slice none 0 0, .nilFunc, .int .i32 0] 73)).heap.size = w.heap.size + 1 by simp] at h
  case round =>
    obtain ⟨k, ns, rfl, hk, hnk, HN, HW, HC⟩ := hrel
    rcases Nat.lt_or_ge k p.length with hlt | hge
    · have hof := off_lt p HP.out k hlt
      have hlk : p[k]? = some p[k] := List.getElem?_eq_getElem hlt
      have hos := off_succ p k _ hlk
      have hok := List.all_eq_true.1 HP.out _ (List.getElem_mem hlt)
      have hne := okR_ne _ hok
      have hlen := (bt_len _ hok)
      have HDC := Aside0.mk (fun W hW => dec_call p HP.out k _ hlk W hW)
      have HTr := Aside0.mk (Glob.later HT.out HC.out.below)
      have hdr : Aside0 (p.drop k = p[k] :: p.drop (k + 1)) := ⟨List.drop_eq_getElem_cons hlt⟩
      clear hlk
      generalize hc : p[k] = c at *
      have hlt2 : ((off p k : Nat) : Int) < ((runesBytes p).size : Int) := by omega
      go_wp2_with fail
      refine (HDC.out _ HTr.out).mono ?_
      rintro e w2 ⟨rfl, hb⟩
      replace HC := Aside0.mk (HC.out.later hb)
      replace HTr := Aside0.mk (Glob.later HTr.out hb)
      have hs2 := HC.out.size
      obtain ⟨v, hb9, hR⟩ := HC.out.b9
      have HR2 := Aside0.mk hR
      have HBw := Aside0.mk (Below.refl w2.heap.size w2)
      have hcv := cell_b9 rfl hb9
      clear hb hR HDC
      by_cases h95 : c = 95
      · subst h95
        have HN2 := Aside0.mk (nodes_step (k' := k + 1) (y := some (95, -1)) HN.out (show nodes (gF true) (p.drop k) = _ by rw [hdr.out, nodes_cons _ _ _ (by decide)]; rfl))
        have HW2 := Aside0.mk (wt_snoc (y := some (95, -1)) HW.out (fun o x h => by injection h with h; injection h with h1 h2; left; omega))
        clear HN HW
        go_wp2_with (first | ((with_reducible refine gate_builtin (b := .append) (xs := #[.tmp 50, .tmp 53]) rfl ?_); at_builtin; refine Kd.R_append kN (w0 := w2) (w.heap.size + 2) rfl (.tmp 50) (.tmp 53) 71 114 .nilIface 16 rfl Tryd.underlying71 infoN rfl (by decide) (by omega) v ns (some (95, -1)) [encN (some (95, -1))] (fun _ => True) (fun _ => False) rfl rfl ?aP (fun _ hk => hk.elim) ?aF ?aO ?aB ?aS ?aL ?_; (case aP => exact rfl); (case aF => exact (fun _ _ => trivial)); (case aO => exact Kd.R_below HR2.out (by repeat (first | (with_reducible exact HBw.out) | (with_reducible apply below_drew) | (with_reducible apply pw_below_drewN) | (with_reducible apply below_drew1)))); (case aB => exact Below.mono (show Below w2.heap.size w2 _ by repeat (first | (with_reducible exact HBw.out) | (with_reducible apply below_drew) | (with_reducible apply pw_below_drewN) | (with_reducible apply below_drew1))) hs2); (case aS => exact Nat.le_trans hs2 (Below.size (show Below w2.heap.size w2 _ by repeat (first | (with_reducible exact HBw.out) | (with_reducible apply below_drew) | (with_reducible apply pw_below_drewN) | (with_reducible apply below_drew1))))); (case aL => omega); intro v1 w5 ho hb5 hg5 hat; obtain ⟨A5, c5, rfl⟩ := Kd.R_slice ho; have hc5 := cell_b9 (hb5.block (w.heap.size + 1) (by omega)) hb9; have hz5 := frozen_b9 (hb5.block (w.heap.size + 1) (by omega)) hb9; clear hg5 hat; have HO5 := Aside0.mk ho; have HB5 := Aside0.mk hb5; clear ho hb5))
        go_roundw
        case rel => exact ⟨k + 1, ns ++ [some (95, -1)], by rw [hos]; go_num, by omega, by rw [List.length_append]; simp; omega, HN2, HW2, ⟨HC.out.put HB5.out (by have h := HO5.out; rw [List.length_append] at h; exact h)⟩⟩
        case measure => simp [intOf]; omega
      · have g95 : (c == 95) = false := by simpa using h95
        by_cases h37 : c = 37
        · subst h37
          have HN2 := Aside0.mk (nodes_step (k' := k + 1) (y := none) HN.out (show nodes (gF true) (p.drop k) = _ by rw [hdr.out, nodes_cons _ _ _ (by decide)]; rfl))
          have HW2 := Aside0.mk (wt_snoc (y := none) HW.out (fun o x h => by cases h))
          clear HN HW
          go_wp2_with (first | ((with_reducible refine gate_builtin (b := .append) (xs := #[.tmp 59, .tmp 62]) rfl ?_); at_builtin; refine Kd.R_append kN (w0 := w2) (w.heap.size + 2) rfl (.tmp 59) (.tmp 62) 71 114 .nilIface 16 rfl Tryd.underlying71 infoN rfl (by decide) (by omega) v ns (none) [encN (none)] (fun _ => True) (fun _ => False) rfl rfl ?aP (fun _ hk => hk.elim) ?aF ?aO ?aB ?aS ?aL ?_; (case aP => exact rfl); (case aF => exact (fun _ _ => trivial)); (case aO => exact Kd.R_below HR2.out (by repeat (first | (with_reducible exact HBw.out) | (with_reducible apply below_drew) | (with_reducible apply pw_below_drewN) | (with_reducible apply below_drew1)))); (case aB => exact Below.mono (show Below w2.heap.size w2 _ by repeat (first | (with_reducible exact HBw.out) | (with_reducible apply below_drew) | (with_reducible apply pw_below_drewN) | (with_reducible apply below_drew1))) hs2); (case aS => exact Nat.le_trans hs2 (Below.size (show Below w2.heap.size w2 _ by repeat (first | (with_reducible exact HBw.out) | (with_reducible apply below_drew) | (with_reducible apply pw_below_drewN) | (with_reducible apply below_drew1))))); (case aL => omega); intro v1 w5 ho hb5 hg5 hat; obtain ⟨A5, c5, rfl⟩ := Kd.R_slice ho; have hc5 := cell_b9 (hb5.block (w.heap.size + 1) (by omega)) hb9; have hz5 := frozen_b9 (hb5.block (w.heap.size + 1) (by omega)) hb9; clear hg5 hat; have HO5 := Aside0.mk ho; have HB5 := Aside0.mk hb5; clear ho hb5))
          go_roundw
          case rel => exact ⟨k + 1, ns ++ [none], by rw [hos]; go_num, by omega, by rw [List.length_append]; simp; omega, HN2, HW2, ⟨HC.out.put HB5.out (by have h := HO5.out; rw [List.length_append] at h; exact h)⟩⟩
          case measure => simp [intOf]; omega
        · have g37 : (c == 37) = false := by simpa using h37
          by_cases h92 : c = 92
          · subst h92
            have hlt1 : k + 1 < p.length := by
              rcases Nat.lt_or_ge (k + 1) p.length with h | h
              · exact h
              · exfalso
                have h1 := HN.out
                rw [HG.out, hdr.out, List.drop_eq_nil_of_le h] at h1
                simp [nodes] at h1
            have hof2 := off_lt p HP.out (k + 1) hlt1
            have hlk2 : p[k + 1]? = some p[k + 1] := List.getElem?_eq_getElem hlt1
            have hos2 := off_succ p (k + 1) _ hlk2
            have hok2 := List.all_eq_true.1 HP.out _ (List.getElem_mem hlt1)
            have hne2 := okR_ne _ hok2
            have hlen2 := (bt_len _ hok2)
            have HDC2 := Aside0.mk (fun W hW => dec_call p HP.out (k + 1) _ hlk2 W hW)
            have hdr2 : p.drop (k + 1) = p[k + 1] :: p.drop (k + 1 + 1) := List.drop_eq_getElem_cons hlt1
            have HN2 := Aside0.mk (nodes_step (k' := k + 1 + 1) (y := some (p[k + 1], gF true p[k + 1])) HN.out (show nodes (gF true) (p.drop k) = _ by rw [hdr.out, hdr2, nodes_esc]; rfl))
            have HW2 := Aside0.mk (wt_snoc (y := some (p[k + 1], gF true p[k + 1])) HW.out (fun o x h => by injection h with h; injection h with h1 h2; right; rw [← h2]; exact (gF_pos true _ hok2).1))
            have HFc := Aside0.mk (fun W => HF.out _ hok2 W)
            clear hlk2 hdr2 HN HW HBw hcv hb9 HR2
            generalize hd : p[k + 1] = d at *
            rw [hos] at HDC2 hof2 hos2
            have hof3 : ((off p k : Nat) : Int) + ((bt 92).length : Int) ≤ ((runesBytes p).size : Int) := by omega
            generalize hgd : gF true d = y at *
            clear hd hgd
            go_wp2_with fail
            refine (HDC2.out _ HTr.out).mono ?_
            rintro e w2 ⟨rfl, hb⟩
            replace HC := Aside0.mk (HC.out.later hb)
            replace hs2 := HC.out.size
            obtain ⟨v, hb9, hR⟩ := HC.out.b9
            have HR2 := Aside0.mk hR
            have hcv := cell_b9 rfl hb9
            clear hb hR HDC2 HTr
            go_wp2
            go_region_law (first | (refine goesV_ Tryd.func43 (by kernel_rfl) rfl #[.int .i32 d] (by rfl) rfl rfl (by rfl) (by (try simp only [List.map_toArray, List.map_cons, List.map_nil]); rfl) ?_; refine (HFc.out _).mono ?_; rintro e w3 ⟨rfl, hb⟩; refine ⟨_, rfl, ?_⟩; have HBw := Aside0.mk (show Below w2.heap.size w2 w3 from below_step (by repeat (first | (with_reducible exact Below.refl _ _) | (with_reducible apply below_drew) | (with_reducible apply pw_below_drewN) | (with_reducible apply below_drew1))) hb); have hcv3 := (hb.cell (World.block_lt_of_cell? _ _ (by simpa [go_sem] using hcv))).trans (by simpa [go_sem] using hcv); have hs3 : w.heap.size + 1 < w3.heap.size := (by have := hb.size; simp at this; omega); have hs3' : ¬ w.heap.size + 1 = w3.heap.size := (by omega); clear hb) | (refine Kd.R_append_step kN (w0 := w2) (w.heap.size + 2) (by rfl) (.tmp 83) (.tmp 90) 71 114 .nilIface 16 (by rfl) Tryd.underlying71 infoN rfl (by decide) (by omega) v ns (some (d, y)) [encN (some (d, y))] (fun _ => True) (fun _ => False) (by rfl) (by rfl) ?aP (fun _ hk => hk.elim) ?aF ?aO ?aB ?aS ?aL ?_; (case aP => exact rfl); (case aF => exact (fun _ _ => trivial)); (case aO => exact Kd.R_below HR2.out (by repeat (first | (with_reducible exact HBw.out) | (with_reducible apply below_drew) | (with_reducible apply pw_below_drewN) | (with_reducible apply below_drew1)))); (case aB => exact Below.mono (show Below w2.heap.size w2 _ by repeat (first | (with_reducible exact HBw.out) | (with_reducible apply below_drew) | (with_reducible apply pw_below_drewN) | (with_reducible apply below_drew1))) hs2); (case aS => exact Nat.le_trans hs2 (Below.size (show Below w2.heap.size w2 _ by repeat (first | (with_reducible exact HBw.out) | (with_reducible apply below_drew) | (with_reducible apply pw_below_drewN) | (with_reducible apply below_drew1))))); (case aL => omega); intro v1 w5 ho hb5 hg5 hat; obtain ⟨A5, c5, rfl⟩ := Kd.R_slice ho; have hc5 := cell_b9 (hb5.block (w.heap.size + 1) (by omega)) hb9; have hz5 := frozen_b9 (hb5.block (w.heap.size + 1) (by omega)) hb9; clear hg5 hat; have HO5 := Aside0.mk ho; have HB5 := Aside0.mk hb5; clear ho hb5))
            all_goals
              go_roundw
              case rel => exact ⟨_, _, _, _, _, _, _, _, _, _, _, _, _, _, _, _, _, _, _, _, _, _, _, _, _, _, _, _, _, _, _, _, _, _, _, _, _, _, _, _, _, _, _, _, _, _, _, _, _, _, _, _, _, _, _, _, _, _, _, _, _, _, _, _, _, _, _, _, _, _, _, _, _, _, _, _, _, _, _, _, ⟨k + 1 + 1, ns ++ [some (d, y)], (by rw [hos2]; go_num), by omega, by rw [List.length_append]; simp; omega, HN2, HW2, ⟨HC.out.put HB5.out (by have h := HO5.out; rw [List.length_append] at h; exact h)⟩⟩, rfl⟩
              case measure => simp [intOf]; omega
          · have g92 : (c == 92) = false := by simpa using h92
            have HN2 := Aside0.mk (nodes_step (k' := k + 1) (y := some (c, gF true c)) HN.out (show nodes (gF true) (p.drop k) = _ by rw [hdr.out, nodes_cons _ _ _ h92, show nd (gF true) c = some (gF true c) by unfold nd; rw [if_neg h37, if_neg h95]]; rfl))
            have HW2 := Aside0.mk (wt_snoc (y := some (c, gF true c)) HW.out (fun o x h => by injection h with h; injection h with h1 h2; right; rw [← h2]; exact (gF_pos true c hok).1))
            have HFc := Aside0.mk (fun W => HF.out c hok W)
            clear HN HW HBw
            generalize hgc : gF true c = y at *
            go_wp2
            have hsW := HC.out.size
            go_region_law (first | (refine goesV_ Tryd.func43 (by kernel_rfl) rfl #[.int .i32 c] (by rfl) rfl rfl (by rfl) (by (try simp only [List.map_toArray, List.map_cons, List.map_nil]); rfl) ?_; refine (HFc.out _).mono ?_; rintro e w3 ⟨rfl, hb⟩; refine ⟨_, rfl, ?_⟩; have HBw := Aside0.mk (show Below w2.heap.size w2 w3 from below_step (by repeat (first | (with_reducible exact Below.refl _ _) | (with_reducible apply below_drew) | (with_reducible apply pw_below_drewN) | (with_reducible apply below_drew1))) hb); have hcv3 := (hb.cell (World.block_lt_of_cell? _ _ (by simpa [go_sem] using hcv))).trans (by simpa [go_sem] using hcv); have hs3 : w.heap.size + 1 < w3.heap.size := (by have := hb.size; simp at this; omega); have hs3' : ¬ w.heap.size + 1 = w3.heap.size := (by omega); clear hb) | (refine Kd.R_append_step kN (w0 := w2) (w.heap.size + 2) (by rfl) (.tmp 37) (.tmp 44) 71 114 .nilIface 16 (by rfl) Tryd.underlying71 infoN rfl (by decide) (by omega) v ns (some (c, y)) [encN (some (c, y))] (fun _ => True) (fun _ => False) (by rfl) (by rfl) ?aP (fun _ hk => hk.elim) ?aF ?aO ?aB ?aS ?aL ?_; (case aP => exact rfl); (case aF => exact (fun _ _ => trivial)); (case aO => exact Kd.R_below HR2.out (by repeat (first | (with_reducible exact HBw.out) | (with_reducible apply below_drew) | (with_reducible apply pw_below_drewN) | (with_reducible apply below_drew1)))); (case aB => exact Below.mono (show Below w2.heap.size w2 _ by repeat (first | (with_reducible exact HBw.out) | (with_reducible apply below_drew) | (with_reducible apply pw_below_drewN) | (with_reducible apply below_drew1))) hs2); (case aS => exact Nat.le_trans hs2 (Below.size (show Below w2.heap.size w2 _ by repeat (first | (with_reducible exact HBw.out) | (with_reducible apply below_drew) | (with_reducible apply pw_below_drewN) | (with_reducible apply below_drew1))))); (case aL => omega); intro v1 w5 ho hb5 hg5 hat; obtain ⟨A5, c5, rfl⟩ := Kd.R_slice ho; have hc5 := cell_b9 (hb5.block (w.heap.size + 1) (by omega)) hb9; have hz5 := frozen_b9 (hb5.block (w.heap.size + 1) (by omega)) hb9; clear hg5 hat; have HO5 := Aside0.mk ho; have HB5 := Aside0.mk hb5; clear ho hb5))
            all_goals
              go_roundw
              case rel => exact ⟨_, _, _, _, _, _, _, _, _, _, _, _, _, _, _, _, _, _, _, _, _, _, _, _, _, _, _, _, _, _, _, _, _, _, _, _, _, _, _, _, _, _, _, _, _, _, _, _, _, _, _, _, _, _, _, _, _, _, _, _, _, _, _, _, _, _, _, _, _, _, _, _, _, _, _, _, _, _, _, _, ⟨k + 1, ns ++ [some (c, y)], (by rw [hos]; go_num), by omega, by rw [List.length_append]; simp; omega, HN2, HW2, ⟨HC.out.put HB5.out (by have h := HO5.out; rw [List.length_append] at h; exact h)⟩⟩, rfl⟩
              case measure => simp [intOf]; omega
    · obtain rfl : k = p.length := by omega
      have hNr : wtN ns = N := by
        have h := HN.out
        rw [HG.out, List.drop_eq_nil_of_le (Nat.le_refl _)] at h
        simp [nodes] at h
        exact h.symm
      obtain ⟨v, hb9, hR⟩ := HC.out.b9
      obtain ⟨A5, c5, rfl⟩ := Kd.R_slice hR
      have hC := (Kd.R_reads' hR).2.2
      have h0 := cell_b9 rfl hb9
      have h1 : wr.cell? ⟨w.heap.size + 1, 1, none⟩ = some (.func (.func 43) #[] #[]) := by rw [Lib.cell_of_heap hb9]; rfl
      have h2 : wr.cell? ⟨w.heap.size + 1, 2, none⟩ = some (.int .i32 92) := by rw [Lib.cell_of_heap hb9]; rfl
      have b6 := HC.out.b6
      have r0 : wr.cell? ⟨w.heap.size, 0, none⟩ = some (.slice none 0 0) := by rw [Lib.cell_of_heap b6]; rfl
      have r1 : wr.cell? ⟨w.heap.size, 1, none⟩ = some .nilFunc := by rw [Lib.cell_of_heap b6]; rfl
      have r2 : wr.cell? ⟨w.heap.size, 2, none⟩ = some (.int .i32 0) := by rw [Lib.cell_of_heap b6]; rfl
      have z0 : wr.frozen? ⟨w.heap.size, 0, none⟩ = false := Lib.frozen_of_heap b6 _
      have z1 : wr.frozen? ⟨w.heap.size, 1, none⟩ = false := Lib.frozen_of_heap b6 _
      have z2 : wr.frozen? ⟨w.heap.size, 2, none⟩ = false := Lib.frozen_of_heap b6 _
      have HB := HC.out.below
      have hge2 : ¬ ((off p p.length : Nat) : Int) < ((runesBytes p).size : Int) := by omega
      clear hb9 b6 HC HN
      go_wp2_with fail
      have HBf : Below w.heap.size w (((wr.setCell ⟨w.heap.size, 0, none⟩ (.slice A5 ns.length c5)).setCell ⟨w.heap.size, 1, none⟩ (.func (.func 43) #[] #[])).setCell ⟨w.heap.size, 2, none⟩ (.int .i32 92)) :=
        ((HB.setCell (p := ⟨w.heap.size, 0, none⟩) (Nat.le_refl _) _).setCell (p := ⟨w.heap.size, 1, none⟩) (Nat.le_refl _) _).setCell (p := ⟨w.heap.size, 2, none⟩) (Nat.le_refl _) _
      have hR2 := Kd.R_mono (Kd.R_bound hR) (fun k hk => (⟨trivial, hk.2.1⟩ : True ∧ w.heap.size + 2 ≤ k))
      have hR3 := Kd.R_far (Kd.R_far (Kd.R_far hR2 (p := ⟨w.heap.size, 0, none⟩) (fun k hk => by have := hk.2; simp; omega) (.slice A5 ns.length c5)) (p := ⟨w.heap.size, 1, none⟩) (fun k hk => by have := hk.2; simp; omega) (.func (.func 43) #[] #[])) (p := ⟨w.heap.size, 2, none⟩) (fun k hk => by have := hk.2; simp; omega) (.int .i32 92)
      refine bodyPost_ret (v := .tuple #[.agg #[.slice A5 ns.length c5, .func (.func 43) #[] #[], .int .i32 92], .nilIface]) ?_ rfl ?_
      · simp [results, Tryd.results44, go_sem, r0, r1, r2, z0, z1, z2]
      · first
          | exact ⟨ns, A5, ⟨c5, rfl⟩, hNr, by omega, HW.out, (Kd.R_reads' hR3).2.2, HBf⟩
          | exact ⟨ns, A5, c5, rfl, hNr, by omega, HW.out, (Kd.R_reads' hR3).2.2, HBf⟩
theorem construct_false (p : List Int) (N : List (Option Int)) (hp : p.all okR = true) (hpl : p.length ≤ 12) (hgood : nodes (gF false) p = some N) (w : World) (hT : Glob w) :
    Calls Tryd.prog 44 #[.func (.func 42) #[] #[], .string (runesBytes p), .int .i32 92] w fun e w' => ∃ (ns : List ND) (A : Option Addr) (cA : Nat), e = .returned (.tuple #[.agg #[.slice A ns.length cA, .func (.func 42) #[] #[], .int .i32 92], .nilIface]) ∧
      wtN ns = N ∧ ns.length ≤ 12 ∧ (∀ (j : Nat) (o x : Int), ns[j]? = some (some (o, x)) → x = -1 ∨ 0 ≤ x) ∧ Kd.C kN w' A ns.length ns ∧ Below w.heap.size w w' := by
  have HF : Aside0 (∀ (c : Int) (hc : okR c = true) (W : World), Calls Tryd.prog 42 #[.int .i32 c] W fun e w' => e = .returned (.int .i32 (gF false c)) ∧ Below W.heap.size W w') := ⟨fun c hc W => col_ok false c hc W⟩
  have HT := Aside0.mk hT
  have HP := Aside0.mk hp
  have HG := Aside0.mk hgood
  clear hT hp hgood
  have hsz : off p p.length = (runesBytes p).size := off_all p
  have hmost := off_most p HP.out p.length (Nat.le_refl _)
  rw [hsz] at hmost
  go_enter Tryd.func44, Tryd.ntmps44
  go_wp2_with fail
  go_loopw [10] (fun t wr => ∃ (k : Nat) (ns : List ND), t = .int .i64 ((off p k : Nat) : Int) ∧ k ≤ p.length ∧ ns.length ≤ k ∧ Aside0 (nodes (gF false) p = (nodes (gF false) (p.drop k)).map (wtN ns ++ ·)) ∧ Aside0 (∀ (j : Nat) (o x : Int), ns[j]? = some (some (o, x)) → x = -1 ∨ 0 ≤ x) ∧ Aside0 (CS w wr 42 ns)) (fun t _ => (runesBytes p).size - (intOf t).toNat)
  case atStart =>
    refine ⟨0, [], rfl, Nat.zero_le _, Nat.le_refl _, ⟨?_⟩, ⟨fun j o x h => by simp at h⟩, ⟨?_⟩⟩
    · rw [List.drop_zero]
      cases nodes (gF false) p <;> rfl
    · refine ⟨?_, by simp, ?_, .slice none 0 0, ?_, Kd.R_nil _ _ _ _ _⟩
      · exact below_then (below_alloc (Below.refl _ _) _) (by simp) (below_alloc (Below.refl _ _) _)
      · rw [(below_alloc (Below.refl _ _) _).block _ (by simp)]
        exact heap_alloc_new _ _
      · have h := heap_alloc_new (w.alloc (.cells #[.slice none 0 0, .nilFunc, .int .i32 0] 73)) (.cells #[.slice none 0 0, .func (.func 42) #[] #[], .int .i32 92] 73)
        rwa [show (w.alloc (.cells #[.slice none 0 0, .nilFunc, .int .i32 0] 73)).heap.size = w.heap.size + 1 by simp] at h
  case round =>
    obtain ⟨k, ns, rfl, hk, hnk, HN, HW, HC⟩ := hrel
    rcases Nat.lt_or_ge k p.length with hlt | hge
    · have hof := off_lt p HP.out k hlt
      have hlk : p[k]? = some p[k] := List.getElem?_eq_getElem hlt
      have hos := off_succ p k _ hlk
      have hok := List.all_eq_true.1 HP.out _ (List.getElem_mem hlt)
      have hne := okR_ne _ hok
      have hlen := (bt_len _ hok)
      have HDC := Aside0.mk (fun W hW => dec_call p HP.out k _ hlk W hW)
      have HTr := Aside0.mk (Glob.later HT.out HC.out.below)
      have hdr : Aside0 (p.drop k = p[k] :: p.drop (k + 1)) := ⟨List.drop_eq_getElem_cons hlt⟩
      clear hlk
      generalize hc : p[k] = c at *
      have hlt2 : ((off p k : Nat) : Int) < ((runesBytes p).size : Int) := by omega
      go_wp2_with fail
      refine (HDC.out _ HTr.out).mono ?_
      rintro e w2 ⟨rfl, hb⟩
      replace HC := Aside0.mk (HC.out.later hb)
      replace HTr := Aside0.mk (Glob.later HTr.out hb)
      have hs2 := HC.out.size
      obtain ⟨v, hb9, hR⟩ := HC.out.b9
      have HR2 := Aside0.mk hR
      have HBw := Aside0.mk (Below.refl w2.heap.size w2)
      have hcv := cell_b9 rfl hb9
      clear hb hR HDC
      by_cases h95 : c = 95
      · subst h95
        have HN2 := Aside0.mk (nodes_step (k' := k + 1) (y := some (95, -1)) HN.out (show nodes (gF false) (p.drop k) = _ by rw [hdr.out, nodes_cons _ _ _ (by decide)]; rfl))
        have HW2 := Aside0.mk (wt_snoc (y := some (95, -1)) HW.out (fun o x h => by injection h with h; injection h with h1 h2; left; omega))
        clear HN HW
        go_wp2_with (first | ((with_reducible refine gate_builtin (b := .append) (xs := #[.tmp 50, .tmp 53]) rfl ?_); at_builtin; refine Kd.R_append kN (w0 := w2) (w.heap.size + 2) rfl (.tmp 50) (.tmp 53) 71 114 .nilIface 16 rfl Tryd.underlying71 infoN rfl (by decide) (by omega) v ns (some (95, -1)) [encN (some (95, -1))] (fun _ => True) (fun _ => False) rfl rfl ?aP (fun _ hk => hk.elim) ?aF ?aO ?aB ?aS ?aL ?_; (case aP => exact rfl); (case aF => exact (fun _ _ => trivial)); (case aO => exact Kd.R_below HR2.out (by repeat (first | (with_reducible exact HBw.out) | (with_reducible apply below_drew) | (with_reducible apply pw_below_drewN) | (with_reducible apply below_drew1)))); (case aB => exact Below.mono (show Below w2.heap.size w2 _ by repeat (first | (with_reducible exact HBw.out) | (with_reducible apply below_drew) | (with_reducible apply pw_below_drewN) | (with_reducible apply below_drew1))) hs2); (case aS => exact Nat.le_trans hs2 (Below.size (show Below w2.heap.size w2 _ by repeat (first | (with_reducible exact HBw.out) | (with_reducible apply below_drew) | (with_reducible apply pw_below_drewN) | (with_reducible apply below_drew1))))); (case aL => omega); intro v1 w5 ho hb5 hg5 hat; obtain ⟨A5, c5, rfl⟩ := Kd.R_slice ho; have hc5 := cell_b9 (hb5.block (w.heap.size + 1) (by omega)) hb9; have hz5 := frozen_b9 (hb5.block (w.heap.size + 1) (by omega)) hb9; clear hg5 hat; have HO5 := Aside0.mk ho; have HB5 := Aside0.mk hb5; clear ho hb5))
        go_roundw
        case rel => exact ⟨k + 1, ns ++ [some (95, -1)], by rw [hos]; go_num, by omega, by rw [List.length_append]; simp; omega, HN2, HW2, ⟨HC.out.put HB5.out (by have h := HO5.out; rw [List.length_append] at h; exact h)⟩⟩
        case measure => simp [intOf]; omega
      · have g95 : (c == 95) = false := by simpa using h95
        by_cases h37 : c = 37
        · subst h37
          have HN2 := Aside0.mk (nodes_step (k' := k + 1) (y := none) HN.out (show nodes (gF false) (p.drop k) = _ by rw [hdr.out, nodes_cons _ _ _ (by decide)]; rfl))
          have HW2 := Aside0.mk (wt_snoc (y := none) HW.out (fun o x h => by cases h))
          clear HN HW
          go_wp2_with (first | ((with_reducible refine gate_builtin (b := .append) (xs := #[.tmp 59, .tmp 62]) rfl ?_); at_builtin; refine Kd.R_append kN (w0 := w2) (w.heap.size + 2) rfl (.tmp 59) (.tmp 62) 71 114 .nilIface 16 rfl Tryd.underlying71 infoN rfl (by decide) (by omega) v ns (none) [encN (none)] (fun _ => True) (fun _ => False) rfl rfl ?aP (fun _ hk => hk.elim) ?aF ?aO ?aB ?aS ?aL ?_; (case aP => exact rfl); (case aF => exact (fun _ _ => trivial)); (case aO => exact Kd.R_below HR2.out (by repeat (first | (with_reducible exact HBw.out) | (with_reducible apply below_drew) | (with_reducible apply pw_below_drewN) | (with_reducible apply below_drew1)))); (case aB => exact Below.mono (show Below w2.heap.size w2 _ by repeat (first | (with_reducible exact HBw.out) | (with_reducible apply below_drew) | (with_reducible apply pw_below_drewN) | (with_reducible apply below_drew1))) hs2); (case aS => exact Nat.le_trans hs2 (Below.size (show Below w2.heap.size w2 _ by repeat (first | (with_reducible exact HBw.out) | (with_reducible apply below_drew) | (with_reducible apply pw_below_drewN) | (with_reducible apply below_drew1))))); (case aL => omega); intro v1 w5 ho hb5 hg5 hat; obtain ⟨A5, c5, rfl⟩ := Kd.R_slice ho; have hc5 := cell_b9 (hb5.block (w.heap.size + 1) (by omega)) hb9; have hz5 := frozen_b9 (hb5.block (w.heap.size + 1) (by omega)) hb9; clear hg5 hat; have HO5 := Aside0.mk ho; have HB5 := Aside0.mk hb5; clear ho hb5))
          go_roundw
          case rel => exact ⟨k + 1, ns ++ [none], by rw [hos]; go_num, by omega, by rw [List.length_append]; simp; omega, HN2, HW2, ⟨HC.out.put HB5.out (by have h := HO5.out; rw [List.length_append] at h; exact h)⟩⟩
          case measure => simp [intOf]; omega
        · have g37 : (c == 37) = false := by simpa using h37
          by_cases h92 : c = 92
          · subst h92
            have hlt1 : k + 1 < p.length := by
              rcases Nat.lt_or_ge (k + 1) p.length with h | h
              · exact h
              · exfalso
                have h1 := HN.out
                rw [HG.out, hdr.out, List.drop_eq_nil_of_le h] at h1
                simp [nodes] at h1
            have hof2 := off_lt p HP.out (k + 1) hlt1
            have hlk2 : p[k + 1]? = some p[k + 1] := List.getElem?_eq_getElem hlt1
            have hos2 := off_succ p (k + 1) _ hlk2
            have hok2 := List.all_eq_true.1 HP.out _ (List.getElem_mem hlt1)
            have hne2 := okR_ne _ hok2
            have hlen2 := (bt_len _ hok2)
            have HDC2 := Aside0.mk (fun W hW => dec_call p HP.out (k + 1) _ hlk2 W hW)
            have hdr2 : p.drop (k + 1) = p[k + 1] :: p.drop (k + 1 + 1) := List.drop_eq_getElem_cons hlt1
            have HN2 := Aside0.mk (nodes_step (k' := k + 1 + 1) (y := some (p[k + 1], gF false p[k + 1])) HN.out (show nodes (gF false) (p.drop k) = _ by rw [hdr.out, hdr2, nodes_esc]; rfl))
            have HW2 := Aside0.mk (wt_snoc (y := some (p[k + 1], gF false p[k + 1])) HW.out (fun o x h => by injection h with h; injection h with h1 h2; right; rw [← h2]; exact (gF_pos false _ hok2).1))
            have HFc := Aside0.mk (fun W => HF.out _ hok2 W)
            clear hlk2 hdr2 HN HW HBw hcv hb9 HR2
            generalize hd : p[k + 1] = d at *
            rw [hos] at HDC2 hof2 hos2
            have hof3 : ((off p k : Nat) : Int) + ((bt 92).length : Int) ≤ ((runesBytes p).size : Int) := by omega
            generalize hgd : gF false d = y at *
            clear hd hgd
            go_wp2_with fail
            refine (HDC2.out _ HTr.out).mono ?_
            rintro e w2 ⟨rfl, hb⟩
            replace HC := Aside0.mk (HC.out.later hb)
            replace hs2 := HC.out.size
            obtain ⟨v, hb9, hR⟩ := HC.out.b9
            have HR2 := Aside0.mk hR
            have hcv := cell_b9 rfl hb9
            clear hb hR HDC2 HTr
            go_wp2
            go_region_law (first | (refine goesV_ Tryd.func42 (by kernel_rfl) rfl #[.int .i32 d] (by rfl) rfl rfl (by rfl) (by (try simp only [List.map_toArray, List.map_cons, List.map_nil]); rfl) ?_; refine (HFc.out _).mono ?_; rintro e w3 ⟨rfl, hb⟩; refine ⟨_, rfl, ?_⟩; have HBw := Aside0.mk (show Below w2.heap.size w2 w3 from below_step (by repeat (first | (with_reducible exact Below.refl _ _) | (with_reducible apply below_drew) | (with_reducible apply pw_below_drewN) | (with_reducible apply below_drew1))) hb); have hcv3 := (hb.cell (World.block_lt_of_cell? _ _ (by simpa [go_sem] using hcv))).trans (by simpa [go_sem] using hcv); have hs3 : w.heap.size + 1 < w3.heap.size := (by have := hb.size; simp at this; omega); have hs3' : ¬ w.heap.size + 1 = w3.heap.size := (by omega); clear hb) | (refine Kd.R_append_step kN (w0 := w2) (w.heap.size + 2) (by rfl) (.tmp 83) (.tmp 90) 71 114 .nilIface 16 (by rfl) Tryd.underlying71 infoN rfl (by decide) (by omega) v ns (some (d, y)) [encN (some (d, y))] (fun _ => True) (fun _ => False) (by rfl) (by rfl) ?aP (fun _ hk => hk.elim) ?aF ?aO ?aB ?aS ?aL ?_; (case aP => exact rfl); (case aF => exact (fun _ _ => trivial)); (case aO => exact Kd.R_below HR2.out (by repeat (first | (with_reducible exact HBw.out) | (with_reducible apply below_drew) | (with_reducible apply pw_below_drewN) | (with_reducible apply below_drew1)))); (case aB => exact Below.mono (show Below w2.heap.size w2 _ by repeat (first | (with_reducible exact HBw.out) | (with_reducible apply below_drew) | (with_reducible apply pw_below_drewN) | (with_reducible apply below_drew1))) hs2); (case aS => exact Nat.le_trans hs2 (Below.size (show Below w2.heap.size w2 _ by repeat (first | (with_reducible exact HBw.out) | (with_reducible apply below_drew) | (with_reducible apply pw_below_drewN) | (with_reducible apply below_drew1))))); (case aL => omega); intro v1 w5 ho hb5 hg5 hat; obtain ⟨A5, c5, rfl⟩ := Kd.R_slice ho; have hc5 := cell_b9 (hb5.block (w.heap.size + 1) (by omega)) hb9; have hz5 := frozen_b9 (hb5.block (w.heap.size + 1) (by omega)) hb9; clear hg5 hat; have HO5 := Aside0.mk ho; have HB5 := Aside0.mk hb5; clear ho hb5))
            all_goals
              go_roundw
              case rel => exact ⟨_, _, _, _, _, _, _, _, _, _, _, _, _, _, _, _, _, _, _, _, _, _, _, _, _, _, _, _, _, _, _, _, _, _, _, _, _, _, _, _, _, _, _, _, _, _, _, _, _, _, _, _, _, _, _, _, _, _, _, _, _, _, _, _, _, _, _, _, _, _, _, _, _, _, _, _, _, _, _, _, ⟨k + 1 + 1, ns ++ [some (d, y)], (by rw [hos2]; go_num), by omega, by rw [List.length_append]; simp; omega, HN2, HW2, ⟨HC.out.put HB5.out (by have h := HO5.out; rw [List.length_append] at h; exact h)⟩⟩, rfl⟩
              case measure => simp [intOf]; omega
          · have g92 : (c == 92) = false := by simpa using h92
            have HN2 := Aside0.mk (nodes_step (k' := k + 1) (y := some (c, gF false c)) HN.out (show nodes (gF false) (p.drop k) = _ by rw [hdr.out, nodes_cons _ _ _ h92, show nd (gF false) c = some (gF false c) by unfold nd; rw [if_neg h37, if_neg h95]]; rfl))
            have HW2 := Aside0.mk (wt_snoc (y := some (c, gF false c)) HW.out (fun o x h => by injection h with h; injection h with h1 h2; right; rw [← h2]; exact (gF_pos false c hok).1))
            have HFc := Aside0.mk (fun W => HF.out c hok W)
            clear HN HW HBw
            generalize hgc : gF false c = y at *
            go_wp2
            have hsW := HC.out.size
            go_region_law (first | (refine goesV_ Tryd.func42 (by kernel_rfl) rfl #[.int .i32 c] (by rfl) rfl rfl (by rfl) (by (try simp only [List.map_toArray, List.map_cons, List.map_nil]); rfl) ?_; refine (HFc.out _).mono ?_; rintro e w3 ⟨rfl, hb⟩; refine ⟨_, rfl, ?_⟩; have HBw := Aside0.mk (show Below w2.heap.size w2 w3 from below_step (by repeat (first | (with_reducible exact Below.refl _ _) | (with_reducible apply below_drew) | (with_reducible apply pw_below_drewN) | (with_reducible apply below_drew1))) hb); have hcv3 := (hb.cell (World.block_lt_of_cell? _ _ (by simpa [go_sem] using hcv))).trans (by simpa [go_sem] using hcv); have hs3 : w.heap.size + 1 < w3.heap.size := (by have := hb.size; simp at this; omega); have hs3' : ¬ w.heap.size + 1 = w3.heap.size := (by omega); clear hb) | (refine Kd.R_append_step kN (w0 := w2) (w.heap.size + 2) (by rfl) (.tmp 37) (.tmp 44) 71 114 .nilIface 16 (by rfl) Tryd.underlying71 infoN rfl (by decide) (by omega) v ns (some (c, y)) [encN (some (c, y))] (fun _ => True) (fun _ => False) (by rfl) (by rfl) ?aP (fun _ hk => hk.elim) ?aF ?aO ?aB ?aS ?aL ?_; (case aP => exact rfl); (case aF => exact (fun _ _ => trivial)); (case aO => exact Kd.R_below HR2.out (by repeat (first | (with_reducible exact HBw.out) | (with_reducible apply below_drew) | (with_reducible apply pw_below_drewN) | (with_reducible apply below_drew1)))); (case aB => exact Below.mono (show Below w2.heap.size w2 _ by repeat (first | (with_reducible exact HBw.out) | (with_reducible apply below_drew) | (with_reducible apply pw_below_drewN) | (with_reducible apply below_drew1))) hs2); (case aS => exact Nat.le_trans hs2 (Below.size (show Below w2.heap.size w2 _ by repeat (first | (with_reducible exact HBw.out) | (with_reducible apply below_drew) | (with_reducible apply pw_below_drewN) | (with_reducible apply below_drew1))))); (case aL => omega); intro v1 w5 ho hb5 hg5 hat; obtain ⟨A5, c5, rfl⟩ := Kd.R_slice ho; have hc5 := cell_b9 (hb5.block (w.heap.size + 1) (by omega)) hb9; have hz5 := frozen_b9 (hb5.block (w.heap.size + 1) (by omega)) hb9; clear hg5 hat; have HO5 := Aside0.mk ho; have HB5 := Aside0.mk hb5; clear ho hb5))
            all_goals
              go_roundw
              case rel => exact ⟨_, _, _, _, _, _, _, _, _, _, _, _, _, _, _, _, _, _, _, _, _, _, _, _, _, _, _, _, _, _, _, _, _, _, _, _, _, _, _, _, _, _, _, _, _, _, _, _, _, _, _, _, _, _, _, _, _, _, _, _, _, _, _, _, _, _, _, _, _, _, _, _, _, _, _, _, _, _, _, _, ⟨k + 1, ns ++ [some (c, y)], (by rw [hos]; go_num), by omega, by rw [List.length_append]; simp; omega, HN2, HW2, ⟨HC.out.put HB5.out (by have h := HO5.out; rw [List.length_append] at h; exact h)⟩⟩, rfl⟩
              case measure => simp [intOf]; omega
    · obtain rfl : k = p.length := by omega
      have hNr : wtN ns = N := by
        have h := HN.out
        rw [HG.out, List.drop_eq_nil_of_le (Nat.le_refl _)] at h
        simp [nodes] at h
        exact h.symm
      obtain ⟨v, hb9, hR⟩ := HC.out.b9
      obtain ⟨A5, c5, rfl⟩ := Kd.R_slice hR
      have hC := (Kd.R_reads' hR).2.2
      have h0 := cell_b9 rfl hb9
      have h1 : wr.cell? ⟨w.heap.size + 1, 1, none⟩ = some (.func (.func 42) #[] #[]) := by rw [Lib.cell_of_heap hb9]; rfl
      have h2 : wr.cell? ⟨w.heap.size + 1, 2, none⟩ = some (.int .i32 92) := by rw [Lib.cell_of_heap hb9]; rfl
      have b6 := HC.out.b6
      have r0 : wr.cell? ⟨w.heap.size, 0, none⟩ = some (.slice none 0 0) := by rw [Lib.cell_of_heap b6]; rfl
      have r1 : wr.cell? ⟨w.heap.size, 1, none⟩ = some .nilFunc := by rw [Lib.cell_of_heap b6]; rfl
      have r2 : wr.cell? ⟨w.heap.size, 2, none⟩ = some (.int .i32 0) := by rw [Lib.cell_of_heap b6]; rfl
      have z0 : wr.frozen? ⟨w.heap.size, 0, none⟩ = false := Lib.frozen_of_heap b6 _
      have z1 : wr.frozen? ⟨w.heap.size, 1, none⟩ = false := Lib.frozen_of_heap b6 _
      have z2 : wr.frozen? ⟨w.heap.size, 2, none⟩ = false := Lib.frozen_of_heap b6 _
      have HB := HC.out.below
      have hge2 : ¬ ((off p p.length : Nat) : Int) < ((runesBytes p).size : Int) := by omega
      clear hb9 b6 HC HN
      go_wp2_with fail
      have HBf : Below w.heap.size w (((wr.setCell ⟨w.heap.size, 0, none⟩ (.slice A5 ns.length c5)).setCell ⟨w.heap.size, 1, none⟩ (.func (.func 42) #[] #[])).setCell ⟨w.heap.size, 2, none⟩ (.int .i32 92)) :=
        ((HB.setCell (p := ⟨w.heap.size, 0, none⟩) (Nat.le_refl _) _).setCell (p := ⟨w.heap.size, 1, none⟩) (Nat.le_refl _) _).setCell (p := ⟨w.heap.size, 2, none⟩) (Nat.le_refl _) _
      have hR2 := Kd.R_mono (Kd.R_bound hR) (fun k hk => (⟨trivial, hk.2.1⟩ : True ∧ w.heap.size + 2 ≤ k))
      have hR3 := Kd.R_far (Kd.R_far (Kd.R_far hR2 (p := ⟨w.heap.size, 0, none⟩) (fun k hk => by have := hk.2; simp; omega) (.slice A5 ns.length c5)) (p := ⟨w.heap.size, 1, none⟩) (fun k hk => by have := hk.2; simp; omega) (.func (.func 42) #[] #[])) (p := ⟨w.heap.size, 2, none⟩) (fun k hk => by have := hk.2; simp; omega) (.int .i32 92)
      refine bodyPost_ret (v := .tuple #[.agg #[.slice A5 ns.length c5, .func (.func 42) #[] #[], .int .i32 92], .nilIface]) ?_ rfl ?_
      · simp [results, Tryd.results44, go_sem, r0, r1, r2, z0, z1, z2]
      · first
          | exact ⟨ns, A5, ⟨c5, rfl⟩, hNr, by omega, HW.out, (Kd.R_reads' hR3).2.2, HBf⟩
          | exact ⟨ns, A5, c5, rfl, hNr, by omega, HW.out, (Kd.R_reads' hR3).2.2, HBf⟩
theorem construct_ok (fold : Bool) (p : List Int) (N : List (Option Int)) (hp : p.all okR = true) (hpl : p.length ≤ 12) (hgood : nodes (gF fold) p = some N) (w : World) (hT : Glob w) :
    Calls Tryd.prog 44 #[colV fold, .string (runesBytes p), .int .i32 92] w fun e w' => ∃ (ns : List ND) (A : Option Addr) (cA : Nat), e = .returned (.tuple #[.agg #[.slice A ns.length cA, colV fold, .int .i32 92], .nilIface]) ∧
      wtN ns = N ∧ ns.length ≤ 12 ∧ (∀ (j : Nat) (o x : Int), ns[j]? = some (some (o, x)) → x = -1 ∨ 0 ≤ x) ∧ Kd.C kN w' A ns.length ns ∧ Below w.heap.size w w' := by
  cases fold
  · exact construct_false p N hp hpl hgood w hT
  · exact construct_true p N hp hpl hgood w hT
end Go.Proofs.YthicaehcoingeaaDoor.PLK
