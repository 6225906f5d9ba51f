/-
  laws.FnRGSimplify walked: it answers true. Condition: the numbers are of 64 bits.
-/
import Derived.Test.YtlcoodjkolponaaDoorRTd
import Derived.Test.YtlcoodjkolponaaDoorRUb
namespace Go.Proofs.YtlcoodjkolponaaDoor.PRR
open Go.RowKit Go.Proofs.YtlcoodjkolponaaDoorW.PrintWords Go.Proofs.YtlcoodjkolponaaDoorW.PrintLast Go.Proofs.YtlcoodjkolponaaDoorW.PrintMore
set_option linter.unusedVariables false
set_option linter.unusedSimpArgs false
set_option maxRecDepth 100000
set_option maxHeartbeats 4000000

/-- The four cells of a range. -/
def aS (x : S44) : Value := .agg #[.int .i64 x.f0.f0, .int .i64 x.f0.f1, .int .i64 x.f1.f0, .int .i64 x.f1.f1]
theorem full_ok (x : S44) (h : WholeS x) : ∃ y : S44, FullS y ∧ ∀ w : World, Calls Tryd.prog 21 #[.agg #[.int .i64 x.f0.f0, .int .i64 x.f0.f1, .int .i64 x.f1.f0, .int .i64 x.f1.f1]] w fun e w' => e = .returned (.agg #[.int .i64 y.f0.f0, .int .i64 y.f0.f1, .int .i64 y.f1.f0, .int .i64 y.f1.f1]) ∧ Below w.heap.size w w' := by
  obtain ⟨k, a, l, b, F, e⟩ := rgFull_full 10 (by omega) _ _ _ _ h.1 h.2.1 h.2.2.1 h.2.2.2
  exact ⟨⟨⟨k, a⟩, ⟨l, b⟩⟩, F, fun w => laws_rgFull.calls 10 _ _ _ _ k a l b w e⟩
theorem lists_ok (A0 : Option Addr) (c0 : Nat) (l : List S44) (hl : l.length ≤ 1000) (hc : l.length ≤ c0) (w : World) (hC : Kd.C k44 w A0 l.length l) :
    Calls Tryd.prog 46 #[.slice A0 l.length c0] w fun e w' => ∃ A c, e = .returned (.slice A (l.map fun x => [x]).length c) ∧ (l.map fun x => [x]).length ≤ c ∧ Kd.C (Kd.slice 44 k44) w' A (l.map fun x => [x]).length (l.map fun x => [x]) ∧ Below w.heap.size w w' := by
  refine (laws_rgLists.calls _ A0 c0 l _ w hC hc (lists_list l hl)).mono ?_
  rintro e w' ⟨v, rfl, hS, hB⟩
  obtain ⟨A, c, rfl, hle, hCC⟩ := Kd.R_reads (Kd.S_R hS)
  exact ⟨A, c, rfl, hle, hCC, hB⟩
theorem touch_ok (x y : S44) (hx : FullS x) (hy : FullS y) (h : hi y < lo x) (w : World) :
    Calls Tryd.prog 29 #[.agg #[.int .i64 x.f0.f0, .int .i64 x.f0.f1, .int .i64 x.f1.f0, .int .i64 x.f1.f1], .agg #[.int .i64 y.f0.f0, .int .i64 y.f0.f1, .int .i64 y.f1.f0, .int .i64 y.f1.f1]] w fun e w' => e = .returned (.bool false) ∧ Below w.heap.size w w' := by
  refine spec_RGTouch.calls 5 _ _ _ _ _ _ _ _ false w ?_
  unfold spec_RGTouch.f
  rw [ends_fine 5 (by omega) hx.lo hx.hi, ends_fine 5 (by omega) hy.lo hy.hi]
  simp only [Option.bind_some]
  rw [if_neg (show ¬ plc x.f0.f0 x.f0.f1 ≤ plc y.f1.f0 y.f1.f1 by show ¬ lo x ≤ hi y; omega)]
theorem has_single (l : List S44) (p : Int) : hasB (l.map fun x => [x]) [p] = true ↔ ∃ x ∈ l, inS x p := by
  unfold hasB
  rw [List.any_map, List.any_eq_true]
  constructor
  · rintro ⟨x, hx, h⟩
    refine ⟨x, hx, ?_⟩
    simp [inRow] at h
    exact h
  · rintro ⟨x, hx, h⟩
    refine ⟨x, hx, ?_⟩
    simp [inRow]
    exact h
theorem has_other (l : List S44) (q : List Int) (h : q.length ≠ 1) : hasB (l.map fun x => [x]) q = false := by
  unfold hasB
  rw [List.any_map, List.any_eq_false]
  intro x hx
  simp
  intro e
  exact absurd e.symm h
theorem has_eq {out l : List S44} (h : Simple out l) (q : List Int) : hasB (out.map fun x => [x]) q = hasB (l.map fun x => [x]) q := by
  by_cases e : q.length = 1
  · match q, e with
    | [p], _ => rw [Bool.eq_iff_iff, has_single, has_single]; exact h.cover p
  · rw [has_other _ _ e, has_other _ _ e]
theorem law9_ok (A0 : Option Addr) (c0 : Nat) (cols : List S44) (hx : ∀ x ∈ cols, WholeS x) (w : World) (hC : Kd.C k44 w A0 cols.length cols) :
    Calls Tryd.prog 9 #[.slice A0 cols.length c0] w fun e w' => e = .returned (.bool true) ∧ Below w.heap.size w w' := by
  have hmax : cols.length ≤ 9223372036854775807 := hC.2.1
  have HC := Aside0.mk (fun W (h : Below w.heap.size w W) => Kd.C_below hC h)
  have HX := Aside0.mk hx
  obtain ⟨s0, F0, S0⟩ := full_ok ⟨⟨2, 3⟩, ⟨3, 3⟩⟩ (by unfold WholeS I64; simp)
  have HS0 := Aside0.mk S0
  have HF0 := Aside0.mk F0
  clear hC hx S0 F0
  go_enter Tryd.func9, Tryd.ntmps9
  by_cases hbig : cols.length ≤ 2147483647
  · go_wp2_with (first
      | (go_at_call 21; refine (HS0.out _).mono ?_; rintro e w1 ⟨rfl, hb⟩; have HB1 := Aside0.mk hb; clear hb)
      | ((with_reducible refine gate_dst (N := 16) rfl ?_); refine Kd.R_lit k44 (w0 := w) w.heap.size 44 ?hg (N := 16) ?hd (xs := [s0]) (inner := [.int .i64 s0.f0.f0, .int .i64 s0.f0.f1, .int .i64 s0.f1.f0, .int .i64 s0.f1.f1]) (ok := fun _ => True) (okp := fun _ => True) ?hr ?hp (fun _ hk => hk) trivial HB1.out HB1.out.size (by simp) ?_; (case hd => rfl); (case hg => rfl); (case hr => first | (go_simp; done) | (go_simp; rfl)); (case hp => exact Reps.c4 (show Kd.M k44 _ _ _ s0 _ from k44_mkM _ _ _ s0) (Reps.none _ _)); intro v3 w2 ho hb2 hg_ hnew_; clear hg_ hnew_; have HO2 := Aside0.mk ho; have HB2 := Aside0.mk hb2; clear ho hb2))
    go_loopw [3, 4] (fun t3 t4 wr => ∃ (i : Nat) (l : List S44), t4 = .int .i64 (i : Int) ∧ i ≤ cols.length ∧ i ≤ 8 ∧ l.length = i + 1 ∧ Aside0 (∀ x ∈ l, FullS x) ∧ Aside0 (Kd.R k44 44 wr w.heap.size (fun _ => True) t3 l) ∧ Aside0 (Below w.heap.size w wr)) (fun _ t4 _ => cols.length - (intOf t4).toNat)
    case atStart => exact ⟨0, [s0], rfl, Nat.zero_le _, by omega, rfl, ⟨fun x hx => by rw [List.mem_singleton.1 hx]; exact HF0.out⟩, HO2, HB2⟩
    case round =>
      obtain ⟨i, l, rfl, hi, hi8, hlen, HF, HR, HB⟩ := hrel
      clear HO2 HB2 HB1 HS0 HF0
      obtain ⟨A3, c3, rfl⟩ := Kd.R_slice HR.out
      by_cases hgo : i < cols.length ∧ i < 8
      · obtain ⟨hlt, h8⟩ := hgo
        have hat := at_T44 (HC.out wr HB.out) (i : Int) (by omega) (by omega)
        rw [rd_at cols i hlt, Int.toNat_natCast] at hat
        obtain ⟨ad, rfl, g0, g1, g2, g3⟩ := hat
        obtain ⟨y, FY, SY⟩ := full_ok cols[i] (HX.out _ (List.getElem_mem hlt))
        have HSY := Aside0.mk SY
        have HFY := Aside0.mk FY
        have HL := Aside0.mk hlen
        have hla : (l.length + 1) * 32 ≤ 140737488355328 := by omega
        clear SY FY hlen
        generalize cols[i].f0.f0 = x0 at *
        generalize cols[i].f0.f1 = x1 at *
        generalize cols[i].f1.f0 = x2 at *
        generalize cols[i].f1.f1 = x3 at *
        go_wp2_with fail
        refine (HSY.out _).mono ?_
        rintro e w4 ⟨rfl, hb⟩
        have HR4 := Aside0.mk (Kd.R_below HR.out hb)
        have HB4 := Aside0.mk (below_step HB.out hb)
        have hs4 := HB4.out.size
        have HF4 : Aside0 (∀ x ∈ l ++ [y], FullS x) := ⟨fun x hx => by
          rcases List.mem_append.1 hx with h | h
          · exact HF.out x h
          · rw [List.mem_singleton.1 h]; exact HFY.out⟩
        clear hb HR HF HSY HFY
        go_wp2_with ((with_reducible refine gate_builtin (b := .append) (xs := #[.tmp 27, .tmp 33]) rfl ?_); at_builtin; go_loud (refine Kd.R_append k44 (w0 := w) (W := w4) w.heap.size rfl (.tmp 27) (.tmp 33) 40 44 (.agg #[.int .i64 0, .int .i64 0, .int .i64 0, .int .i64 0]) 32 rfl Tryd.underlying40 info44 rfl (by decide) (by decide) (.slice A3 l.length c3) l y [.int .i64 y.f0.f0, .int .i64 y.f0.f1, .int .i64 y.f1.f0, .int .i64 y.f1.f1] (fun _ => True) (fun _ => False) rfl rfl (k44_mkM _ _ _ y) (fun z hz => hz.elim) (fun _ _ => trivial) HR4.out HB4.out hs4 hla ?_; intro v1 w5 ho hb3 hg3 hat; clear hg3 hat; have HO5 := Aside0.mk ho; have HB5 := Aside0.mk hb3; clear ho hb3))
        go_roundw
        case rel => exact ⟨i + 1, l ++ [y], by go_num, by omega, by omega, by rw [List.length_append, HL.out]; rfl, HF4, HO5, HB5⟩
        case measure => simp [intOf]; omega
      · have h1 : 1 ≤ l.length := by omega
        have h12 : l.length ≤ 12 := by omega
        have HSIM := Aside0.mk (fun W (h : Below w.heap.size w W) (hC' : Kd.C k44 W A3 l.length l) => rgSimplify_ok A3 c3 l h1 h12 HF.out W hC')
        have HCl := Aside0.mk (fun W (h : Below wr.heap.size wr W) => Kd.C_below (Kd.R_reads' HR.out).2.2 h)
        have hcl := (Kd.R_reads' HR.out).2.1
        have HS9 := Aside0.mk (HSIM.out wr HB.out (HCl.out wr (Below.refl _ _)))
        have hcond : (decide ((i : Int) < cols.length) && decide ((i : Int) < 8)) = false := by
          rw [Bool.and_eq_false_iff, decide_eq_false_iff_not, decide_eq_false_iff_not]; omega
        clear HC HX hlen HR HSIM
        by_cases hk1 : i < cols.length
        · have hk2 : ¬ i < 8 := by omega
          go_wp2_with fail
          refine HS9.out.mono ?_
          rintro e w4 ⟨A5, c5, out, rfl, hso, hco, hC5, hb4⟩
          have HSo := Aside0.mk hso
          have HB4 := Aside0.mk (below_step HB.out hb4)
          have hfew := hso.few
          have hne : 1 ≤ out.length := by
            rcases Nat.eq_zero_or_pos out.length with h | h
            · exact absurd (List.eq_nil_of_length_eq_zero h) hso.some
            · exact h
          have hn0 : ((out.length : Int) == 0) = false := by rw [beq_eq_false_iff_ne]; omega
          have HCo := Aside0.mk (fun W (h : Below w4.heap.size w4 W) => Kd.C_below hC5 h)
          have HL1 := Aside0.mk (fun W (h : Below w4.heap.size w4 W) => lists_ok A5 c5 out (by omega) hco W (Kd.C_below hC5 h))
          have HL2 := Aside0.mk (fun W (h : Below w4.heap.size w4 W) => lists_ok A3 c3 l (by omega) hcl W (HCl.out W (below_step hb4 h)))
          have HEQ := Aside0.mk (has_eq hso)
          have hf1 : ∀ x ∈ (out.map fun x => [x]), ∀ y ∈ x, FineS y := by
            intro x hx y hy
            obtain ⟨z, hz, rfl⟩ := List.mem_map.1 hx
            rw [List.mem_singleton.1 hy]
            exact (hso.full z hz).fine
          have hf2 : ∀ x ∈ (l.map fun x => [x]), ∀ y ∈ x, FineS y := by
            intro x hx y hy
            obtain ⟨z, hz, rfl⟩ := List.mem_map.1 hx
            rw [List.mem_singleton.1 hy]
            exact (HF.out z hz).fine
          have HCV := Aside0.mk (fun (A : Option Addr) c (A' : Option Addr) c' W h1 h2 h3 h4 => cover_ok A c (out.map fun x => [x]) A' c' (l.map fun x => [x]) hf1 hf2 (by simp; omega) h1 h2 1 (by omega) HEQ.out W h3 h4)
          clear hso hC5 hb4 hf1 hf2 HS9 HCl HF
          have HM1 : Aside0 ((out.map fun x => [x]).length ≤ 12) := ⟨by simp; omega⟩
          generalize (out.map fun x => [x]) = ro at *
          generalize (l.map fun x => [x]) = rl at *
          go_wp2_with (first
            | (go_at_call 46; refine (HL1.out _ (Below.refl _ _)).mono ?_; rintro e w5 ⟨A6, c6, rfl, hc6, hC6, hb5⟩; have HB5 := Aside0.mk hb5; have HC6 := Aside0.mk hC6; have HL6 := Aside0.mk hc6; clear hb5 hC6 hc6 HL1)
            | (go_at_call 46; refine (HL2.out _ HB5.out).mono ?_; rintro e w6 ⟨A7, c7, rfl, hc7, hC7, hb6⟩; have HB6 := Aside0.mk (below_step HB5.out hb6); have HCV2 := Aside0.mk (HCV.out A6 c6 A7 c7 w6 HL6.out hc7 (Kd.C_below HC6.out hb6) hC7); clear hb6 hC7 hc7 HL2 HC6 HL6 HCV)
            | (go_at_call 35; refine (HCV2.out).mono ?_; rintro e w7 ⟨rfl, hb7⟩; have HB7 := Aside0.mk (below_step HB6.out hb7); clear hb7 HCV2))
          obtain ⟨ad5, hA5⟩ : ∃ ad5, A5 = some ad5 := by
            obtain ⟨ad, e, _⟩ := (HCo.out w4 (Below.refl _ _)).2.2 (by omega)
            exact ⟨ad, e⟩
          subst hA5
          go_loopw [7] (fun t7 wr => ∃ a : Nat, t7 = .int .i64 (a : Int) ∧ a ≤ out.length ∧ Aside0 (Below w4.heap.size w4 wr)) (fun t7 _ => out.length - (intOf t7).toNat)
          case atStart => exact ⟨0, rfl, Nat.zero_le _, HB7⟩
          case round =>
            obtain ⟨a, rfl, ha, HBa⟩ := hrel
            clear HB5 HB6 HB7
            rcases Nat.lt_or_ge a out.length with hal | hag
            · go_wp2
              go_loopw [8] (fun t8 wr => ∃ b : Nat, t8 = .int .i64 (b : Int) ∧ b ≤ a ∧ Aside0 (Below w4.heap.size w4 wr)) (fun t8 _ => a - (intOf t8).toNat)
              case atStart => exact ⟨0, rfl, Nat.zero_le _, HBa⟩
              case round =>
                obtain ⟨b, rfl, hb, HBb⟩ := hrel
                clear HBa
                rcases Nat.lt_or_ge b a with hbl | hbg
                · have hbo : b < out.length := by omega
                  have ht := touch_ok out[a] out[b] (HSo.out.full _ (List.getElem_mem hal)) (HSo.out.full _ (List.getElem_mem hbo)) (List.pairwise_iff_getElem.1 HSo.out.apart b a hbo hal hbl)
                  have HT := Aside0.mk ht
                  have hca := at_T44 (HCo.out wr HBb.out) (a : Int) (by omega) (by omega)
                  have hcb := at_T44 (HCo.out wr HBb.out) (b : Int) (by omega) (by omega)
                  rw [rd_at out a hal, Int.toNat_natCast] at hca
                  rw [rd_at out b hbo, Int.toNat_natCast] at hcb
                  obtain ⟨adx, e1, a0, a1, a2, a3⟩ := hca
                  cases e1
                  obtain ⟨adx, e1, b0, b1, b2, b3⟩ := hcb
                  cases e1
                  clear ht
                  generalize out[a].f0.f0 = x0 at *
                  generalize out[a].f0.f1 = x1 at *
                  generalize out[a].f1.f0 = x2 at *
                  generalize out[a].f1.f1 = x3 at *
                  generalize out[b].f0.f0 = y0 at *
                  generalize out[b].f0.f1 = y1 at *
                  generalize out[b].f1.f0 = y2 at *
                  generalize out[b].f1.f1 = y3 at *
                  go_wp2
                  refine wp_region_noPanic ?_
                  refine wp_region_held_drew (S := fun W => Below wr.heap.size wr W) (by kernel_rfl) ?_ (fun hHeld => ?_)
                  · exact below_drew (Below.refl _ _)
                  refine take_ (oi := ?oi1) (i := 0) (N := some 66) (v := ?v1) ?hi1 (by kernel_rfl) (by kernel_rfl) (by kernel_rfl) ?hQ1 ?hN1 (Or.inl ⟨?hw1, ?hy1⟩) hHeld ?rest1
                  case hi1 => simp only [List.getElem?_toArray, List.getElem?_cons_zero, List.getElem?_cons_succ]; rfl
                  case hQ1 => exact fun _ _ _ h => h
                  case hN1 => rfl
                  case hw1 => rfl
                  case hy1 => intro W hSw; have z0 := pw_cell_below (show Below _ _ W from hSw) a0; have z1 := pw_cell_below (show Below _ _ W from hSw) a1; have z2 := pw_cell_below (show Below _ _ W from hSw) a2; have z3 := pw_cell_below (show Below _ _ W from hSw) a3; have z4 := pw_cell_below (show Below _ _ W from hSw) b0; have z5 := pw_cell_below (show Below _ _ W from hSw) b1; have z6 := pw_cell_below (show Below _ _ W from hSw) b2; have z7 := pw_cell_below (show Below _ _ W from hSw) b3; go_simp; (try with_reducible rfl)
                  simp only [Act.put, List.setIfInBounds_toArray, List.set_cons_zero, List.set_cons_succ]
                  refine take_ (oi := ?oi2) (i := 1) (N := some 67) (v := ?v2) ?hi2 (by kernel_rfl) (by kernel_rfl) (by kernel_rfl) ?hQ2 ?hN2 (Or.inl ⟨?hw2, ?hy2⟩) hHeld ?rest2
                  case hi2 => simp only [List.getElem?_toArray, List.getElem?_cons_zero, List.getElem?_cons_succ]; rfl
                  case hQ2 => exact fun _ _ _ h => h
                  case hN2 => rfl
                  case hw2 => rfl
                  case hy2 => intro W hSw; have z0 := pw_cell_below (show Below _ _ W from hSw) a0; have z1 := pw_cell_below (show Below _ _ W from hSw) a1; have z2 := pw_cell_below (show Below _ _ W from hSw) a2; have z3 := pw_cell_below (show Below _ _ W from hSw) a3; have z4 := pw_cell_below (show Below _ _ W from hSw) b0; have z5 := pw_cell_below (show Below _ _ W from hSw) b1; have z6 := pw_cell_below (show Below _ _ W from hSw) b2; have z7 := pw_cell_below (show Below _ _ W from hSw) b3; go_simp; (try with_reducible rfl)
                  simp only [Act.put, List.setIfInBounds_toArray, List.set_cons_zero, List.set_cons_succ]
                  refine take_ (oi := ?oi3) (i := 2) (N := some 68) (v := ?v3) ?hi3 (by kernel_rfl) (by kernel_rfl) (by kernel_rfl) ?hQ3 ?hN3 (Or.inl ⟨?hw3, ?hy3⟩) hHeld ?rest3
                  case hi3 => simp only [List.getElem?_toArray, List.getElem?_cons_zero, List.getElem?_cons_succ]; rfl
                  case hQ3 => exact fun _ _ _ h => h
                  case hN3 => rfl
                  case hw3 => rfl
                  case hy3 => intro W hSw; have z0 := pw_cell_below (show Below _ _ W from hSw) a0; have z1 := pw_cell_below (show Below _ _ W from hSw) a1; have z2 := pw_cell_below (show Below _ _ W from hSw) a2; have z3 := pw_cell_below (show Below _ _ W from hSw) a3; have z4 := pw_cell_below (show Below _ _ W from hSw) b0; have z5 := pw_cell_below (show Below _ _ W from hSw) b1; have z6 := pw_cell_below (show Below _ _ W from hSw) b2; have z7 := pw_cell_below (show Below _ _ W from hSw) b3; go_simp; (try with_reducible rfl)
                  simp only [Act.put, List.setIfInBounds_toArray, List.set_cons_zero, List.set_cons_succ]
                  refine take_ (oi := ?oi4) (i := 3) (N := some 69) (v := ?v4) ?hi4 (by kernel_rfl) (by kernel_rfl) (by kernel_rfl) ?hQ4 ?hN4 (Or.inl ⟨?hw4, ?hy4⟩) hHeld ?rest4
                  case hi4 => simp only [List.getElem?_toArray, List.getElem?_cons_zero, List.getElem?_cons_succ]; rfl
                  case hQ4 => exact fun _ _ _ h => h
                  case hN4 => rfl
                  case hw4 => rfl
                  case hy4 => intro W hSw; have z0 := pw_cell_below (show Below _ _ W from hSw) a0; have z1 := pw_cell_below (show Below _ _ W from hSw) a1; have z2 := pw_cell_below (show Below _ _ W from hSw) a2; have z3 := pw_cell_below (show Below _ _ W from hSw) a3; have z4 := pw_cell_below (show Below _ _ W from hSw) b0; have z5 := pw_cell_below (show Below _ _ W from hSw) b1; have z6 := pw_cell_below (show Below _ _ W from hSw) b2; have z7 := pw_cell_below (show Below _ _ W from hSw) b3; go_simp; (try with_reducible rfl)
                  simp only [Act.put, List.setIfInBounds_toArray, List.set_cons_zero, List.set_cons_succ]
                  refine take_ (oi := ?oi5) (i := 4) (N := some 70) (v := ?v5) ?hi5 (by kernel_rfl) (by kernel_rfl) (by kernel_rfl) ?hQ5 ?hN5 (Or.inl ⟨?hw5, ?hy5⟩) hHeld ?rest5
                  case hi5 => simp only [List.getElem?_toArray, List.getElem?_cons_zero, List.getElem?_cons_succ]; rfl
                  case hQ5 => exact fun _ _ _ h => h
                  case hN5 => rfl
                  case hw5 => rfl
                  case hy5 => intro W hSw; have z0 := pw_cell_below (show Below _ _ W from hSw) a0; have z1 := pw_cell_below (show Below _ _ W from hSw) a1; have z2 := pw_cell_below (show Below _ _ W from hSw) a2; have z3 := pw_cell_below (show Below _ _ W from hSw) a3; have z4 := pw_cell_below (show Below _ _ W from hSw) b0; have z5 := pw_cell_below (show Below _ _ W from hSw) b1; have z6 := pw_cell_below (show Below _ _ W from hSw) b2; have z7 := pw_cell_below (show Below _ _ W from hSw) b3; go_simp; (try with_reducible rfl)
                  simp only [Act.put, List.setIfInBounds_toArray, List.set_cons_zero, List.set_cons_succ]
                  refine take_ (oi := ?oi6) (i := 5) (N := some 71) (v := ?v6) ?hi6 (by kernel_rfl) (by kernel_rfl) (by kernel_rfl) ?hQ6 ?hN6 (Or.inl ⟨?hw6, ?hy6⟩) hHeld ?rest6
                  case hi6 => simp only [List.getElem?_toArray, List.getElem?_cons_zero, List.getElem?_cons_succ]; rfl
                  case hQ6 => exact fun _ _ _ h => h
                  case hN6 => rfl
                  case hw6 => rfl
                  case hy6 => intro W hSw; have z0 := pw_cell_below (show Below _ _ W from hSw) a0; have z1 := pw_cell_below (show Below _ _ W from hSw) a1; have z2 := pw_cell_below (show Below _ _ W from hSw) a2; have z3 := pw_cell_below (show Below _ _ W from hSw) a3; have z4 := pw_cell_below (show Below _ _ W from hSw) b0; have z5 := pw_cell_below (show Below _ _ W from hSw) b1; have z6 := pw_cell_below (show Below _ _ W from hSw) b2; have z7 := pw_cell_below (show Below _ _ W from hSw) b3; go_simp; (try with_reducible rfl)
                  simp only [Act.put, List.setIfInBounds_toArray, List.set_cons_zero, List.set_cons_succ]
                  refine take_ (oi := ?oi7) (i := 6) (N := some 72) (v := ?v7) ?hi7 (by kernel_rfl) (by kernel_rfl) (by kernel_rfl) ?hQ7 ?hN7 (Or.inl ⟨?hw7, ?hy7⟩) hHeld ?rest7
                  case hi7 => simp only [List.getElem?_toArray, List.getElem?_cons_zero, List.getElem?_cons_succ]; rfl
                  case hQ7 => exact fun _ _ _ h => h
                  case hN7 => rfl
                  case hw7 => rfl
                  case hy7 => intro W hSw; have z0 := pw_cell_below (show Below _ _ W from hSw) a0; have z1 := pw_cell_below (show Below _ _ W from hSw) a1; have z2 := pw_cell_below (show Below _ _ W from hSw) a2; have z3 := pw_cell_below (show Below _ _ W from hSw) a3; have z4 := pw_cell_below (show Below _ _ W from hSw) b0; have z5 := pw_cell_below (show Below _ _ W from hSw) b1; have z6 := pw_cell_below (show Below _ _ W from hSw) b2; have z7 := pw_cell_below (show Below _ _ W from hSw) b3; go_simp; (try with_reducible rfl)
                  simp only [Act.put, List.setIfInBounds_toArray, List.set_cons_zero, List.set_cons_succ]
                  refine take_ (oi := ?oi8) (i := 7) (N := some 73) (v := ?v8) ?hi8 (by kernel_rfl) (by kernel_rfl) (by kernel_rfl) ?hQ8 ?hN8 (Or.inl ⟨?hw8, ?hy8⟩) hHeld ?rest8
                  case hi8 => simp only [List.getElem?_toArray, List.getElem?_cons_zero, List.getElem?_cons_succ]; rfl
                  case hQ8 => exact fun _ _ _ h => h
                  case hN8 => rfl
                  case hw8 => rfl
                  case hy8 => intro W hSw; have z0 := pw_cell_below (show Below _ _ W from hSw) a0; have z1 := pw_cell_below (show Below _ _ W from hSw) a1; have z2 := pw_cell_below (show Below _ _ W from hSw) a2; have z3 := pw_cell_below (show Below _ _ W from hSw) a3; have z4 := pw_cell_below (show Below _ _ W from hSw) b0; have z5 := pw_cell_below (show Below _ _ W from hSw) b1; have z6 := pw_cell_below (show Below _ _ W from hSw) b2; have z7 := pw_cell_below (show Below _ _ W from hSw) b3; go_simp; (try with_reducible rfl)
                  simp only [Act.put, List.setIfInBounds_toArray, List.set_cons_zero, List.set_cons_succ]
                  refine wpAnyH_ready (rs := [8]) (by kernel_rfl) (by simp) ?_
                  refine AllReadyH.cons (o := ?oi9) ?hi9 (fun K hK => ?step9) AllReadyH.nil
                  case hi9 => simp only [List.getElem?_toArray, List.getElem?_cons_zero, List.getElem?_cons_succ]; rfl
                  refine goes_ (N := some 74) Tryd.func29 (by kernel_rfl) rfl #[.agg #[.int .i64 x0, .int .i64 x1, .int .i64 x2, .int .i64 x3], .agg #[.int .i64 y0, .int .i64 y1, .int .i64 y2, .int .i64 y3]] (by rfl) rfl rfl (by (try simp only [List.map_toArray, List.map_cons, List.map_nil]); rfl) ?_
                  refine (HT.out _).mono ?_
                  rintro e v8 ⟨rfl, hb⟩
                  refine ⟨_, rfl, ?_⟩
                  refine hK.out _ _ (below_step hHeld hb) (fun hHeld => ?_)
                  clear hK K hb
                  simp only [Act.put, List.setIfInBounds_toArray, List.set_cons_zero, List.set_cons_succ]
                  refine wpAnyH_done (by kernel_rfl) ?_ _
                  refine NoPanic.normal ?_
                  have HBv : Aside0 (Below w4.heap.size w4 v8) := ⟨below_step HBb.out hHeld⟩
                  clear hHeld a0 a1 a2 a3 b0 b1 b2 b3 HBb
                  go_wp2
                  go_roundw
                  case rel => exact ⟨b + 1, by go_num, by omega, HBv⟩
                  case measure => simp [intOf]; omega
                · obtain rfl : b = a := by omega
                  go_wp2
                  go_roundw
                  case rel => exact ⟨b + 1, by go_num, by omega, HBb⟩
                  case measure => simp [intOf]; omega
            · obtain rfl : a = out.length := by omega
              go_wp2
              go_ret
              exact ⟨rfl, below_step HB4.out HBa.out⟩
        · go_wp2_with fail
          refine HS9.out.mono ?_
          rintro e w4 ⟨A5, c5, out, rfl, hso, hco, hC5, hb4⟩
          have HSo := Aside0.mk hso
          have HB4 := Aside0.mk (below_step HB.out hb4)
          have hfew := hso.few
          have hne : 1 ≤ out.length := by
            rcases Nat.eq_zero_or_pos out.length with h | h
            · exact absurd (List.eq_nil_of_length_eq_zero h) hso.some
            · exact h
          have hn0 : ((out.length : Int) == 0) = false := by rw [beq_eq_false_iff_ne]; omega
          have HCo := Aside0.mk (fun W (h : Below w4.heap.size w4 W) => Kd.C_below hC5 h)
          have HL1 := Aside0.mk (fun W (h : Below w4.heap.size w4 W) => lists_ok A5 c5 out (by omega) hco W (Kd.C_below hC5 h))
          have HL2 := Aside0.mk (fun W (h : Below w4.heap.size w4 W) => lists_ok A3 c3 l (by omega) hcl W (HCl.out W (below_step hb4 h)))
          have HEQ := Aside0.mk (has_eq hso)
          have hf1 : ∀ x ∈ (out.map fun x => [x]), ∀ y ∈ x, FineS y := by
            intro x hx y hy
            obtain ⟨z, hz, rfl⟩ := List.mem_map.1 hx
            rw [List.mem_singleton.1 hy]
            exact (hso.full z hz).fine
          have hf2 : ∀ x ∈ (l.map fun x => [x]), ∀ y ∈ x, FineS y := by
            intro x hx y hy
            obtain ⟨z, hz, rfl⟩ := List.mem_map.1 hx
            rw [List.mem_singleton.1 hy]
            exact (HF.out z hz).fine
          have HCV := Aside0.mk (fun (A : Option Addr) c (A' : Option Addr) c' W h1 h2 h3 h4 => cover_ok A c (out.map fun x => [x]) A' c' (l.map fun x => [x]) hf1 hf2 (by simp; omega) h1 h2 1 (by omega) HEQ.out W h3 h4)
          clear hso hC5 hb4 hf1 hf2 HS9 HCl HF
          have HM1 : Aside0 ((out.map fun x => [x]).length ≤ 12) := ⟨by simp; omega⟩
          generalize (out.map fun x => [x]) = ro at *
          generalize (l.map fun x => [x]) = rl at *
          go_wp2_with (first
            | (go_at_call 46; refine (HL1.out _ (Below.refl _ _)).mono ?_; rintro e w5 ⟨A6, c6, rfl, hc6, hC6, hb5⟩; have HB5 := Aside0.mk hb5; have HC6 := Aside0.mk hC6; have HL6 := Aside0.mk hc6; clear hb5 hC6 hc6 HL1)
            | (go_at_call 46; refine (HL2.out _ HB5.out).mono ?_; rintro e w6 ⟨A7, c7, rfl, hc7, hC7, hb6⟩; have HB6 := Aside0.mk (below_step HB5.out hb6); have HCV2 := Aside0.mk (HCV.out A6 c6 A7 c7 w6 HL6.out hc7 (Kd.C_below HC6.out hb6) hC7); clear hb6 hC7 hc7 HL2 HC6 HL6 HCV)
            | (go_at_call 35; refine (HCV2.out).mono ?_; rintro e w7 ⟨rfl, hb7⟩; have HB7 := Aside0.mk (below_step HB6.out hb7); clear hb7 HCV2))
          obtain ⟨ad5, hA5⟩ : ∃ ad5, A5 = some ad5 := by
            obtain ⟨ad, e, _⟩ := (HCo.out w4 (Below.refl _ _)).2.2 (by omega)
            exact ⟨ad, e⟩
          subst hA5
          go_loopw [7] (fun t7 wr => ∃ a : Nat, t7 = .int .i64 (a : Int) ∧ a ≤ out.length ∧ Aside0 (Below w4.heap.size w4 wr)) (fun t7 _ => out.length - (intOf t7).toNat)
          case atStart => exact ⟨0, rfl, Nat.zero_le _, HB7⟩
          case round =>
            obtain ⟨a, rfl, ha, HBa⟩ := hrel
            clear HB5 HB6 HB7
            rcases Nat.lt_or_ge a out.length with hal | hag
            · go_wp2
              go_loopw [8] (fun t8 wr => ∃ b : Nat, t8 = .int .i64 (b : Int) ∧ b ≤ a ∧ Aside0 (Below w4.heap.size w4 wr)) (fun t8 _ => a - (intOf t8).toNat)
              case atStart => exact ⟨0, rfl, Nat.zero_le _, HBa⟩
              case round =>
                obtain ⟨b, rfl, hb, HBb⟩ := hrel
                clear HBa
                rcases Nat.lt_or_ge b a with hbl | hbg
                · have hbo : b < out.length := by omega
                  have ht := touch_ok out[a] out[b] (HSo.out.full _ (List.getElem_mem hal)) (HSo.out.full _ (List.getElem_mem hbo)) (List.pairwise_iff_getElem.1 HSo.out.apart b a hbo hal hbl)
                  have HT := Aside0.mk ht
                  have hca := at_T44 (HCo.out wr HBb.out) (a : Int) (by omega) (by omega)
                  have hcb := at_T44 (HCo.out wr HBb.out) (b : Int) (by omega) (by omega)
                  rw [rd_at out a hal, Int.toNat_natCast] at hca
                  rw [rd_at out b hbo, Int.toNat_natCast] at hcb
                  obtain ⟨adx, e1, a0, a1, a2, a3⟩ := hca
                  cases e1
                  obtain ⟨adx, e1, b0, b1, b2, b3⟩ := hcb
                  cases e1
                  clear ht
                  generalize out[a].f0.f0 = x0 at *
                  generalize out[a].f0.f1 = x1 at *
                  generalize out[a].f1.f0 = x2 at *
                  generalize out[a].f1.f1 = x3 at *
                  generalize out[b].f0.f0 = y0 at *
                  generalize out[b].f0.f1 = y1 at *
                  generalize out[b].f1.f0 = y2 at *
                  generalize out[b].f1.f1 = y3 at *
                  go_wp2
                  refine wp_region_noPanic ?_
                  refine wp_region_held_drew (S := fun W => Below wr.heap.size wr W) (by kernel_rfl) ?_ (fun hHeld => ?_)
                  · exact below_drew (Below.refl _ _)
                  refine take_ (oi := ?oi10) (i := 0) (N := some 66) (v := ?v10) ?hi10 (by kernel_rfl) (by kernel_rfl) (by kernel_rfl) ?hQ10 ?hN10 (Or.inl ⟨?hw10, ?hy10⟩) hHeld ?rest10
                  case hi10 => simp only [List.getElem?_toArray, List.getElem?_cons_zero, List.getElem?_cons_succ]; rfl
                  case hQ10 => exact fun _ _ _ h => h
                  case hN10 => rfl
                  case hw10 => rfl
                  case hy10 => intro W hSw; have z0 := pw_cell_below (show Below _ _ W from hSw) a0; have z1 := pw_cell_below (show Below _ _ W from hSw) a1; have z2 := pw_cell_below (show Below _ _ W from hSw) a2; have z3 := pw_cell_below (show Below _ _ W from hSw) a3; have z4 := pw_cell_below (show Below _ _ W from hSw) b0; have z5 := pw_cell_below (show Below _ _ W from hSw) b1; have z6 := pw_cell_below (show Below _ _ W from hSw) b2; have z7 := pw_cell_below (show Below _ _ W from hSw) b3; go_simp; (try with_reducible rfl)
                  simp only [Act.put, List.setIfInBounds_toArray, List.set_cons_zero, List.set_cons_succ]
                  refine take_ (oi := ?oi11) (i := 1) (N := some 67) (v := ?v11) ?hi11 (by kernel_rfl) (by kernel_rfl) (by kernel_rfl) ?hQ11 ?hN11 (Or.inl ⟨?hw11, ?hy11⟩) hHeld ?rest11
                  case hi11 => simp only [List.getElem?_toArray, List.getElem?_cons_zero, List.getElem?_cons_succ]; rfl
                  case hQ11 => exact fun _ _ _ h => h
                  case hN11 => rfl
                  case hw11 => rfl
                  case hy11 => intro W hSw; have z0 := pw_cell_below (show Below _ _ W from hSw) a0; have z1 := pw_cell_below (show Below _ _ W from hSw) a1; have z2 := pw_cell_below (show Below _ _ W from hSw) a2; have z3 := pw_cell_below (show Below _ _ W from hSw) a3; have z4 := pw_cell_below (show Below _ _ W from hSw) b0; have z5 := pw_cell_below (show Below _ _ W from hSw) b1; have z6 := pw_cell_below (show Below _ _ W from hSw) b2; have z7 := pw_cell_below (show Below _ _ W from hSw) b3; go_simp; (try with_reducible rfl)
                  simp only [Act.put, List.setIfInBounds_toArray, List.set_cons_zero, List.set_cons_succ]
                  refine take_ (oi := ?oi12) (i := 2) (N := some 68) (v := ?v12) ?hi12 (by kernel_rfl) (by kernel_rfl) (by kernel_rfl) ?hQ12 ?hN12 (Or.inl ⟨?hw12, ?hy12⟩) hHeld ?rest12
                  case hi12 => simp only [List.getElem?_toArray, List.getElem?_cons_zero, List.getElem?_cons_succ]; rfl
                  case hQ12 => exact fun _ _ _ h => h
                  case hN12 => rfl
                  case hw12 => rfl
                  case hy12 => intro W hSw; have z0 := pw_cell_below (show Below _ _ W from hSw) a0; have z1 := pw_cell_below (show Below _ _ W from hSw) a1; have z2 := pw_cell_below (show Below _ _ W from hSw) a2; have z3 := pw_cell_below (show Below _ _ W from hSw) a3; have z4 := pw_cell_below (show Below _ _ W from hSw) b0; have z5 := pw_cell_below (show Below _ _ W from hSw) b1; have z6 := pw_cell_below (show Below _ _ W from hSw) b2; have z7 := pw_cell_below (show Below _ _ W from hSw) b3; go_simp; (try with_reducible rfl)
                  simp only [Act.put, List.setIfInBounds_toArray, List.set_cons_zero, List.set_cons_succ]
                  refine take_ (oi := ?oi13) (i := 3) (N := some 69) (v := ?v13) ?hi13 (by kernel_rfl) (by kernel_rfl) (by kernel_rfl) ?hQ13 ?hN13 (Or.inl ⟨?hw13, ?hy13⟩) hHeld ?rest13
                  case hi13 => simp only [List.getElem?_toArray, List.getElem?_cons_zero, List.getElem?_cons_succ]; rfl
                  case hQ13 => exact fun _ _ _ h => h
                  case hN13 => rfl
                  case hw13 => rfl
                  case hy13 => intro W hSw; have z0 := pw_cell_below (show Below _ _ W from hSw) a0; have z1 := pw_cell_below (show Below _ _ W from hSw) a1; have z2 := pw_cell_below (show Below _ _ W from hSw) a2; have z3 := pw_cell_below (show Below _ _ W from hSw) a3; have z4 := pw_cell_below (show Below _ _ W from hSw) b0; have z5 := pw_cell_below (show Below _ _ W from hSw) b1; have z6 := pw_cell_below (show Below _ _ W from hSw) b2; have z7 := pw_cell_below (show Below _ _ W from hSw) b3; go_simp; (try with_reducible rfl)
                  simp only [Act.put, List.setIfInBounds_toArray, List.set_cons_zero, List.set_cons_succ]
                  refine take_ (oi := ?oi14) (i := 4) (N := some 70) (v := ?v14) ?hi14 (by kernel_rfl) (by kernel_rfl) (by kernel_rfl) ?hQ14 ?hN14 (Or.inl ⟨?hw14, ?hy14⟩) hHeld ?rest14
                  case hi14 => simp only [List.getElem?_toArray, List.getElem?_cons_zero, List.getElem?_cons_succ]; rfl
                  case hQ14 => exact fun _ _ _ h => h
                  case hN14 => rfl
                  case hw14 => rfl
                  case hy14 => intro W hSw; have z0 := pw_cell_below (show Below _ _ W from hSw) a0; have z1 := pw_cell_below (show Below _ _ W from hSw) a1; have z2 := pw_cell_below (show Below _ _ W from hSw) a2; have z3 := pw_cell_below (show Below _ _ W from hSw) a3; have z4 := pw_cell_below (show Below _ _ W from hSw) b0; have z5 := pw_cell_below (show Below _ _ W from hSw) b1; have z6 := pw_cell_below (show Below _ _ W from hSw) b2; have z7 := pw_cell_below (show Below _ _ W from hSw) b3; go_simp; (try with_reducible rfl)
                  simp only [Act.put, List.setIfInBounds_toArray, List.set_cons_zero, List.set_cons_succ]
                  refine take_ (oi := ?oi15) (i := 5) (N := some 71) (v := ?v15) ?hi15 (by kernel_rfl) (by kernel_rfl) (by kernel_rfl) ?hQ15 ?hN15 (Or.inl ⟨?hw15, ?hy15⟩) hHeld ?rest15
                  case hi15 => simp only [List.getElem?_toArray, List.getElem?_cons_zero, List.getElem?_cons_succ]; rfl
                  case hQ15 => exact fun _ _ _ h => h
                  case hN15 => rfl
                  case hw15 => rfl
                  case hy15 => intro W hSw; have z0 := pw_cell_below (show Below _ _ W from hSw) a0; have z1 := pw_cell_below (show Below _ _ W from hSw) a1; have z2 := pw_cell_below (show Below _ _ W from hSw) a2; have z3 := pw_cell_below (show Below _ _ W from hSw) a3; have z4 := pw_cell_below (show Below _ _ W from hSw) b0; have z5 := pw_cell_below (show Below _ _ W from hSw) b1; have z6 := pw_cell_below (show Below _ _ W from hSw) b2; have z7 := pw_cell_below (show Below _ _ W from hSw) b3; go_simp; (try with_reducible rfl)
                  simp only [Act.put, List.setIfInBounds_toArray, List.set_cons_zero, List.set_cons_succ]
                  refine take_ (oi := ?oi16) (i := 6) (N := some 72) (v := ?v16) ?hi16 (by kernel_rfl) (by kernel_rfl) (by kernel_rfl) ?hQ16 ?hN16 (Or.inl ⟨?hw16, ?hy16⟩) hHeld ?rest16
                  case hi16 => simp only [List.getElem?_toArray, List.getElem?_cons_zero, List.getElem?_cons_succ]; rfl
                  case hQ16 => exact fun _ _ _ h => h
                  case hN16 => rfl
                  case hw16 => rfl
                  case hy16 => intro W hSw; have z0 := pw_cell_below (show Below _ _ W from hSw) a0; have z1 := pw_cell_below (show Below _ _ W from hSw) a1; have z2 := pw_cell_below (show Below _ _ W from hSw) a2; have z3 := pw_cell_below (show Below _ _ W from hSw) a3; have z4 := pw_cell_below (show Below _ _ W from hSw) b0; have z5 := pw_cell_below (show Below _ _ W from hSw) b1; have z6 := pw_cell_below (show Below _ _ W from hSw) b2; have z7 := pw_cell_below (show Below _ _ W from hSw) b3; go_simp; (try with_reducible rfl)
                  simp only [Act.put, List.setIfInBounds_toArray, List.set_cons_zero, List.set_cons_succ]
                  refine take_ (oi := ?oi17) (i := 7) (N := some 73) (v := ?v17) ?hi17 (by kernel_rfl) (by kernel_rfl) (by kernel_rfl) ?hQ17 ?hN17 (Or.inl ⟨?hw17, ?hy17⟩) hHeld ?rest17
                  case hi17 => simp only [List.getElem?_toArray, List.getElem?_cons_zero, List.getElem?_cons_succ]; rfl
                  case hQ17 => exact fun _ _ _ h => h
                  case hN17 => rfl
                  case hw17 => rfl
                  case hy17 => intro W hSw; have z0 := pw_cell_below (show Below _ _ W from hSw) a0; have z1 := pw_cell_below (show Below _ _ W from hSw) a1; have z2 := pw_cell_below (show Below _ _ W from hSw) a2; have z3 := pw_cell_below (show Below _ _ W from hSw) a3; have z4 := pw_cell_below (show Below _ _ W from hSw) b0; have z5 := pw_cell_below (show Below _ _ W from hSw) b1; have z6 := pw_cell_below (show Below _ _ W from hSw) b2; have z7 := pw_cell_below (show Below _ _ W from hSw) b3; go_simp; (try with_reducible rfl)
                  simp only [Act.put, List.setIfInBounds_toArray, List.set_cons_zero, List.set_cons_succ]
                  refine wpAnyH_ready (rs := [8]) (by kernel_rfl) (by simp) ?_
                  refine AllReadyH.cons (o := ?oi18) ?hi18 (fun K hK => ?step18) AllReadyH.nil
                  case hi18 => simp only [List.getElem?_toArray, List.getElem?_cons_zero, List.getElem?_cons_succ]; rfl
                  refine goes_ (N := some 74) Tryd.func29 (by kernel_rfl) rfl #[.agg #[.int .i64 x0, .int .i64 x1, .int .i64 x2, .int .i64 x3], .agg #[.int .i64 y0, .int .i64 y1, .int .i64 y2, .int .i64 y3]] (by rfl) rfl rfl (by (try simp only [List.map_toArray, List.map_cons, List.map_nil]); rfl) ?_
                  refine (HT.out _).mono ?_
                  rintro e v8 ⟨rfl, hb⟩
                  refine ⟨_, rfl, ?_⟩
                  refine hK.out _ _ (below_step hHeld hb) (fun hHeld => ?_)
                  clear hK K hb
                  simp only [Act.put, List.setIfInBounds_toArray, List.set_cons_zero, List.set_cons_succ]
                  refine wpAnyH_done (by kernel_rfl) ?_ _
                  refine NoPanic.normal ?_
                  have HBv : Aside0 (Below w4.heap.size w4 v8) := ⟨below_step HBb.out hHeld⟩
                  clear hHeld a0 a1 a2 a3 b0 b1 b2 b3 HBb
                  go_wp2
                  go_roundw
                  case rel => exact ⟨b + 1, by go_num, by omega, HBv⟩
                  case measure => simp [intOf]; omega
                · obtain rfl : b = a := by omega
                  go_wp2
                  go_roundw
                  case rel => exact ⟨b + 1, by go_num, by omega, HBb⟩
                  case measure => simp [intOf]; omega
            · obtain rfl : a = out.length := by omega
              go_wp2
              go_ret
              exact ⟨rfl, below_step HB4.out HBa.out⟩
  · go_wp2
    go_ret
    exact ⟨rfl, Below.refl _ _⟩
end Go.Proofs.YtlcoodjkolponaaDoor.PRR
