/-
  Contract of spec.RRAll: lists of places that can be read, as long as asked for. Condition: at most 30 ranges, at most three columns.
-/
import Derived.Test.YtlcoodjkolponaaDoorRUp
import Derived.Test.YtlcoodjkolponaaDoorRTs
namespace Go.Proofs.YtlcoodjkolponaaDoor.PRR
open Go.RowKit Go.Proofs.YtlcoodjkolponaaDoorW.PrintWords Go.Proofs.YtlcoodjkolponaaDoorW.PrintLast Go.Proofs.YtlcoodjkolponaaDoorW.PrintMore
set_option linter.unusedVariables false
set_option linter.unusedSimpArgs false
set_option maxRecDepth 100000
set_option maxHeartbeats 4000000

abbrev kI : Kd Int := Kd.int .i64
abbrev kR : Kd (List Int) := Kd.slice 3 kI
theorem at_int {w : World} {A : Option Addr} {n : Nat} {xs : List Int} (h : Kd.C kI w A n xs) (i : Nat) (hi : i < n) (hl : i < xs.length) : ∃ ad, A = some ad ∧ w.cell? (ad.add i) = some (.int .i64 xs[i]) := by
  obtain ⟨ad, c, e, _, hK, hc0⟩ := Kd.C_get h (0 : Int) (i : Int) (by omega) (by omega)
  have hc : ∀ j u, c[j]? = some u → w.cell? (ad.add (i * 1 + j)) = some u := hc0
  rw [show xs.getD (i : Int).toNat 0 = xs[i] by rw [Int.toNat_natCast, List.getD_eq_getElem?_getD, List.getElem?_eq_getElem hl]; rfl] at hK
  obtain rfl : c = [.int .i64 xs[i]] := hK
  exact ⟨ad, e, by have hq := hc 0 _ rfl; rwa [Nat.mul_one, Nat.add_zero] at hq⟩
theorem column_ok (A0 : Option Addr) (c0 : Nat) (rows : List (List S44)) (hf : ∀ x ∈ rows, ∀ y ∈ x, FineS y) (hl : rows.length ≤ 30) (hc0 : rows.length ≤ c0) (k : Nat) (w : World) (hC : Kd.C (Kd.slice 44 k44) w A0 rows.length rows) :
    Calls Tryd.prog 88 #[.slice A0 rows.length c0, .int .i64 (k : Int)] w fun e w' => ∃ A c r, e = .returned (.slice A (List.length r) c) ∧ r.length ≤ 30 ∧ r.length ≤ c ∧ (∀ y ∈ r, FineS y) ∧ Kd.C k44 w' A r.length r ∧ Below w.heap.size w w' := by
  obtain ⟨r, h1, h2, h3⟩ := column_ex rows hf hl k
  refine (spec_RRColumn.calls 40 A0 c0 rows (k : Int) r w hC hc0 h1).mono ?_
  rintro e w' ⟨v, rfl, hR, hB⟩
  obtain ⟨A, c, rfl⟩ := Kd.R_slice hR
  exact ⟨A, c, r, rfl, h2, (Kd.R_reads' hR).2.1, h3, (Kd.R_reads' hR).2.2, hB⟩
theorem places_ok (A0 : Option Addr) (c0 : Nat) (l : List S44) (hf : ∀ y ∈ l, FineS y) (hl : l.length ≤ 30) (hc0 : l.length ≤ c0) (w : World) (hC : Kd.C k44 w A0 l.length l) :
    Calls Tryd.prog 87 #[.slice A0 l.length c0] w fun e w' => ∃ A c pl, e = .returned (.slice A (List.length pl) c) ∧ pl.length ≤ 70 ∧ Kd.C kI w' A pl.length pl ∧ Below w.heap.size w w' := by
  obtain ⟨r, h1, h2⟩ := places_ex l hf hl
  refine (spec_RGPlaces.calls 400 A0 c0 l r w hC hc0 h1).mono ?_
  rintro e w' ⟨v, rfl, hR, hB⟩
  obtain ⟨A, c, rfl⟩ := Kd.R_slice hR
  exact ⟨A, c, r, rfl, h2, (Kd.R_reads' hR).2.2, hB⟩
theorem all_ok (A0 : Option Addr) (c0 : Nat) (rows : List (List S44)) (hf : ∀ x ∈ rows, ∀ y ∈ x, FineS y) (hl : rows.length ≤ 30) (hc0 : rows.length ≤ c0) (m : Nat) (hm : m ≤ 3) (w : World) (hC : Kd.C (Kd.slice 44 k44) w A0 rows.length rows) :
    Calls Tryd.prog 71 #[.slice A0 rows.length c0, .int .i64 (m : Int)] w fun e w' => ∃ A c out, e = .returned (.slice A (List.length out) c) ∧ (∀ x ∈ out, List.length x = m) ∧ Kd.C kR w' A out.length out ∧ Below w.heap.size w w' := by
  have HCOL := Aside0.mk (fun W k (h : Below w.heap.size w W) => column_ok A0 c0 rows hf hl hc0 k W (Kd.C_below hC h))
  clear hC hf
  generalize rows.length = n0 at *
  clear hl hc0
  go_enter Tryd.func71, Tryd.ntmps71
  go_wp2_with (first | ((with_reducible refine gate_dst (N := 11) rfl ?_); refine Kd.R_lit kR (w0 := w) w.heap.size 111 ?hg (N := 11) ?hd (xs := [([] : List Int)]) (inner := [.slice none 0 0]) (ok := fun _ => True) (okp := fun _ => True) ?hr ?hp (fun _ hk => hk) trivial (Below.refl _ _) (Nat.le_refl _) (by simp) ?_; (case hd => rfl); (case hg => rfl); (case hr => first | (go_simp; done) | (go_simp; rfl)); (case hp => exact (Reps.one (show Kd.M kR _ _ _ [] [.slice none 0 0] from ⟨_, rfl, Kd.R_nil _ _ _ _ _⟩) (Reps.none _ _))); intro v11 w2 ho hb hg_ hnew_; clear hg_ hnew_; have HO1 := Aside0.mk ho; have HB1 := Aside0.mk hb; clear ho hb))
  go_loopw [5, 6] (fun t5 t6 wr => ∃ (k : Nat) (out : List (List Int)), t6 = .int .i64 (k : Int) ∧ k ≤ m ∧ out.length ≤ 70 ^ k ∧ Aside0 (∀ x ∈ out, x.length = k) ∧ Aside0 (Kd.R kR 111 wr w.heap.size (fun _ => True) t5 out) ∧ Aside0 (Below w.heap.size w wr)) (fun _ t6 _ => m - (intOf t6).toNat)
  case atStart => exact ⟨0, [[]], rfl, Nat.zero_le _, by simp, ⟨by simp⟩, HO1, HB1⟩
  case round =>
    obtain ⟨k, out, rfl, hk, hout, HLEN, HR, HB⟩ := hrel
    clear HO1 HB1
    obtain ⟨A5, c5, rfl⟩ := Kd.R_slice HR.out
    rcases Nat.lt_or_ge k m with hlt | hge
    · have hpow : 70 ^ k ≤ 4900 := Nat.le_trans (Nat.pow_le_pow_right (by decide) (show k ≤ 2 by omega)) (by decide)
      have hout2 : out.length ≤ 4900 := Nat.le_trans hout hpow
      have HCO := Aside0.mk (HCOL.out wr k HB.out)
      go_wp2_with fail
      refine HCO.out.mono ?_
      rintro e wa ⟨A1, c1, r1, rfl, hr30, hrc, hrf, hC1, hb1⟩
      have HPL := Aside0.mk (places_ok A1 c1 r1 hrf hr30 hrc wa hC1)
      have k1 := Aside0.mk hb1
      clear hC1 hrf hb1 hr30 hrc HCO
      generalize r1.length = n1 at *
      go_wp2_with fail
      refine HPL.out.mono ?_
      rintro e W0 ⟨A7, c7, pl, rfl, hpl, hC7, hb2⟩
      have HC5 := Aside0.mk (Kd.C_below (Kd.R_reads' HR.out).2.2 (below_step k1.out hb2))
      have HC7 := Aside0.mk hC7
      have HB0 := Aside0.mk (below_step HB.out (below_step k1.out hb2))
      clear HR HB k1 HPL hC7 hb2
      go_wp2
      go_loopw [8, 9] (fun t8 t9 wr => ∃ (i : Nat) (acc : List (List Int)), t9 = .int .i64 (i : Int) ∧ i ≤ out.length ∧ acc.length ≤ i * 70 ∧ Aside0 (∀ x ∈ acc, x.length = k + 1) ∧ Aside0 (Kd.R kR 111 wr W0.heap.size (fun _ => True) t8 acc) ∧ Aside0 (Below W0.heap.size W0 wr)) (fun _ t9 _ => out.length - (intOf t9).toNat)
      case atStart => exact ⟨0, [], rfl, Nat.zero_le _, by simp, ⟨by simp⟩, ⟨Kd.R_nil _ _ _ _ _⟩, ⟨Below.refl _ _⟩⟩
      case round =>
        obtain ⟨i, acc, rfl, hi, hacc, HL2, HR2, HB2⟩ := hrel
        obtain ⟨A8, c8, rfl⟩ := Kd.R_slice HR2.out
        rcases Nat.lt_or_ge i out.length with hil | hig
        · obtain ⟨ad5, Ax, cx, rfl, gx, _, hxC⟩ := at_rows HC5.out i hil hil
          have hxl := HLEN.out _ (List.getElem_mem hil)
          have HXC := Aside0.mk hxC
          generalize out[i] = x at *
          have hx3 : x.length ≤ 3 := by omega
          have HXL := Aside0.mk hxl
          clear hxC hxl
          go_wp2
          go_loopw [8, 10] (fun t8 t10 wr => ∃ (j : Nat) (acc : List (List Int)), t10 = .int .i64 (j : Int) ∧ j ≤ pl.length ∧ acc.length ≤ i * 70 + j ∧ Aside0 (∀ x ∈ acc, x.length = k + 1) ∧ Aside0 (Kd.R kR 111 wr W0.heap.size (fun _ => True) t8 acc) ∧ Aside0 (Below W0.heap.size W0 wr)) (fun _ t10 _ => pl.length - (intOf t10).toNat)
          case atStart => exact ⟨0, acc, rfl, Nat.zero_le _, by omega, HL2, HR2, HB2⟩
          case round =>
            obtain ⟨j, acc, rfl, hj, hacc, HL3, HR3, HB3⟩ := hrel
            clear HL2 HR2 HB2
            obtain ⟨A8, c8, rfl⟩ := Kd.R_slice HR3.out
            rcases Nat.lt_or_ge j pl.length with hjl | hjg
            · obtain ⟨ad7, rfl, gp⟩ := at_int HC7.out j hjl hjl
              generalize pl[j] = p at *
              have HBq := Aside0.mk (below_drew (Below.refl wr.heap.size wr))
              have hla : (acc.length + 1) * 24 ≤ 140737488355328 := by omega
              obtain ⟨inner8, hown8⟩ := Kd.R_own HR3.out
              have HW8 := Aside0.mk hown8
              clear hown8
              go_wp2
              refine wp_region_noPanic ?_
              refine wp_region_held_drew (S := fun W => Below W0.heap.size W0 W) (by kernel_rfl) ?_ (fun hHeld => ?_)
              · exact below_drew HB3.out
              refine take_ (oi := ?oi1) (i := 0) (N := some 33) (v := ?v1) ?hi1 (by kernel_rfl) (by kernel_rfl) (by kernel_rfl) ?hQ1 ?hN1 (Or.inl ⟨?hw1, ?hy1⟩) hHeld ?rest1
              case hi1 => simp only [List.getElem?_toArray, List.getElem?_cons_zero, List.getElem?_cons_succ]; rfl
              case hQ1 => exact fun _ _ _ h => h
              case hN1 => rfl
              case hw1 => rfl
              case hy1 => intro W hSw; have z0 := pw_cell_below (show Below _ _ W from hSw) gx; have z1 := pw_cell_below (show Below _ _ W from hSw) gp; go_simp; (try with_reducible rfl)
              simp only [Act.put, List.setIfInBounds_toArray, List.set_cons_zero, List.set_cons_succ]
              refine take_ (oi := ?oi2) (i := 2) (N := some 35) (v := ?v2) ?hi2 (by kernel_rfl) (by kernel_rfl) (by kernel_rfl) ?hQ2 ?hN2 (Or.inl ⟨?hw2, ?hy2⟩) hHeld ?rest2
              case hi2 => simp only [List.getElem?_toArray, List.getElem?_cons_zero, List.getElem?_cons_succ]; rfl
              case hQ2 => exact fun _ _ _ h => h
              case hN2 => rfl
              case hw2 => rfl
              case hy2 => intro W hSw; have z0 := pw_cell_below (show Below _ _ W from hSw) gx; have z1 := pw_cell_below (show Below _ _ W from hSw) gp; go_simp; (try with_reducible rfl)
              simp only [Act.put, List.setIfInBounds_toArray, List.set_cons_zero, List.set_cons_succ]
              refine take_ (oi := ?oi3) (i := 3) (N := some 36) (v := ?v3) ?hi3 (by kernel_rfl) (by kernel_rfl) (by kernel_rfl) ?hQ3 ?hN3 (Or.inl ⟨?hw3, ?hy3⟩) hHeld ?rest3
              case hi3 => simp only [List.getElem?_toArray, List.getElem?_cons_zero, List.getElem?_cons_succ]; rfl
              case hQ3 => exact fun _ _ _ h => h
              case hN3 => rfl
              case hw3 => rfl
              case hy3 => intro W hSw; have z0 := pw_cell_below (show Below _ _ W from hSw) gx; have z1 := pw_cell_below (show Below _ _ W from hSw) gp; go_simp; (try with_reducible rfl)
              simp only [Act.put, List.setIfInBounds_toArray, List.set_cons_zero, List.set_cons_succ]
              refine take_ (oi := ?oi4) (i := 4) (N := some 37) (v := ?v4) ?hi4 (by kernel_rfl) (by kernel_rfl) (by kernel_rfl) ?hQ4 ?hN4 (Or.inl ⟨?hw4, ?hy4⟩) hHeld ?rest4
              case hi4 => simp only [List.getElem?_toArray, List.getElem?_cons_zero, List.getElem?_cons_succ]; rfl
              case hQ4 => exact fun _ _ _ h => h
              case hN4 => rfl
              case hw4 => rfl
              case hy4 => intro W hSw; have z0 := pw_cell_below (show Below _ _ W from hSw) gx; have z1 := pw_cell_below (show Below _ _ W from hSw) gp; go_simp; (try with_reducible rfl)
              simp only [Act.put, List.setIfInBounds_toArray, List.set_cons_zero, List.set_cons_succ]
              refine take_ (oi := ?oi5) (i := 5) (N := some 38) (v := ?v5) ?hi5 (by kernel_rfl) (by kernel_rfl) (by kernel_rfl) ?hQ5 ?hN5 (Or.inl ⟨?hw5, ?hy5⟩) hHeld ?rest5
              case hi5 => simp only [List.getElem?_toArray, List.getElem?_cons_zero, List.getElem?_cons_succ]; rfl
              case hQ5 => exact fun _ _ _ h => h
              case hN5 => rfl
              case hw5 => rfl
              case hy5 => intro W hSw; have z0 := pw_cell_below (show Below _ _ W from hSw) gx; have z1 := pw_cell_below (show Below _ _ W from hSw) gp; go_simp; (try with_reducible rfl)
              simp only [Act.put, List.setIfInBounds_toArray, List.set_cons_zero, List.set_cons_succ]
              refine take_ (oi := ?oi6) (i := 7) (N := some 40) (v := ?v6) ?hi6 (by kernel_rfl) (by kernel_rfl) (by kernel_rfl) ?hQ6 ?hN6 (Or.inl ⟨?hw6, ?hy6⟩) hHeld ?rest6
              case hi6 => simp only [List.getElem?_toArray, List.getElem?_cons_zero, List.getElem?_cons_succ]; rfl
              case hQ6 => exact fun _ _ _ h => h
              case hN6 => rfl
              case hw6 => rfl
              case hy6 => intro W hSw; have z0 := pw_cell_below (show Below _ _ W from hSw) gx; have z1 := pw_cell_below (show Below _ _ W from hSw) gp; go_simp; (try with_reducible rfl)
              simp only [Act.put, List.setIfInBounds_toArray, List.set_cons_zero, List.set_cons_succ]
              refine take_ (oi := ?oi7) (i := 8) (N := some 41) (v := ?v7) ?hi7 (by kernel_rfl) (by kernel_rfl) (by kernel_rfl) ?hQ7 ?hN7 (Or.inl ⟨?hw7, ?hy7⟩) hHeld ?rest7
              case hi7 => simp only [List.getElem?_toArray, List.getElem?_cons_zero, List.getElem?_cons_succ]; rfl
              case hQ7 => exact fun _ _ _ h => h
              case hN7 => rfl
              case hw7 => rfl
              case hy7 => intro W hSw; have z0 := pw_cell_below (show Below _ _ W from hSw) gx; have z1 := pw_cell_below (show Below _ _ W from hSw) gp; go_simp; (try with_reducible rfl)
              simp only [Act.put, List.setIfInBounds_toArray, List.set_cons_zero, List.set_cons_succ]
              refine take_ (oi := ?oi8) (i := 9) (N := some 42) (v := ?v8) ?hi8 (by kernel_rfl) (by kernel_rfl) (by kernel_rfl) ?hQ8 ?hN8 (Or.inl ⟨?hw8, ?hy8⟩) hHeld ?rest8
              case hi8 => simp only [List.getElem?_toArray, List.getElem?_cons_zero, List.getElem?_cons_succ]; rfl
              case hQ8 => exact fun _ _ _ h => h
              case hN8 => rfl
              case hw8 => rfl
              case hy8 => intro W hSw; have z0 := pw_cell_below (show Below _ _ W from hSw) gx; have z1 := pw_cell_below (show Below _ _ W from hSw) gp; go_simp; (try with_reducible rfl)
              simp only [Act.put, List.setIfInBounds_toArray, List.set_cons_zero, List.set_cons_succ]
              refine take_ (oi := ?oi9) (i := 10) (N := some 43) (v := ?v9) ?hi9 (by kernel_rfl) (by kernel_rfl) (by kernel_rfl) ?hQ9 ?hN9 (Or.inl ⟨?hw9, ?hy9⟩) hHeld ?rest9
              case hi9 => simp only [List.getElem?_toArray, List.getElem?_cons_zero, List.getElem?_cons_succ]; rfl
              case hQ9 => exact fun _ _ _ h => h
              case hN9 => rfl
              case hw9 => rfl
              case hy9 => intro W hSw; have z0 := pw_cell_below (show Below _ _ W from hSw) gx; have z1 := pw_cell_below (show Below _ _ W from hSw) gp; go_simp; (try with_reducible rfl)
              simp only [Act.put, List.setIfInBounds_toArray, List.set_cons_zero, List.set_cons_succ]
              refine wpAnyH_ready (rs := [1, 11]) (by kernel_rfl) (by simp) ?_
              refine AllReadyH.cons (o := ?oi10) ?hi10 (fun K hK => ?step10) ?more10
              case hi10 => simp only [List.getElem?_toArray, List.getElem?_cons_zero, List.getElem?_cons_succ]; rfl
              case step10 =>
                refine Kd.R_lit_step kI (w0 := wr) wr.heap.size 3 (by rfl) (N := 34) rfl (xs := ([] : List Int)) (inner := []) (ok := fun _ => True) (okp := fun _ => True) (by go_simp) (Reps.none _ _) (fun _ hk => hk) trivial HBq.out HBq.out.size (by simp) ?_
                intro v34 wA hE hbA hgA hnA
                refine hK.out _ _ (HB3.out.trans (hbA.mono HB3.out.size)) (fun hHeld => ?_)
                have FE := Aside0.mk hE
                have HBq := Aside0.mk hbA
                clear hK K hE hbA hgA hnA
                simp only [Act.put, List.setIfInBounds_toArray, List.set_cons_zero, List.set_cons_succ]
                refine wpAnyH_ready (rs := [6, 11]) (by kernel_rfl) (by simp) ?_
                refine AllReadyH.cons (o := ?oi11) ?hi11 (fun K hK => ?step11) ?more11
                case hi11 => simp only [List.getElem?_toArray, List.getElem?_cons_zero, List.getElem?_cons_succ]; rfl
                case step11 =>
                  refine Kd.R_append_rows_step kI (Rr := fun z cs => cs = [.int .i64 z]) (w0 := wr) wr.heap.size (by rfl) (.tmp 34) (.tmp 38) 111 3 (.int .i64 0) 8 rfl Tryd.underlying111 info3 rfl (by decide) (by decide) v34 [] x Ax x.length cx (fun _ => True) (fun _ => False) rfl rfl FE.out (Kd.C_below HXC.out hHeld) (fun z cs h => h) (fun z hz => hz.elim) (fun _ _ => trivial) HBq.out HBq.out.size (by simp; omega) ?_
                  intro v39 wC hE hbA hgA hnA
                  refine hK.out _ _ (HB3.out.trans (hbA.mono HB3.out.size)) (fun hHeld => ?_)
                  rw [List.nil_append] at hE
                  have F39 := Aside0.mk hE
                  have HBq := Aside0.mk hbA
                  clear hK K hE hbA hgA hnA FE
                  simp only [Act.put, List.setIfInBounds_toArray, List.set_cons_zero, List.set_cons_succ]
                  refine wpAnyH_ready (rs := [11]) (by kernel_rfl) (by simp) ?_
                  refine AllReadyH.cons (o := ?oi12) ?hi12 (fun K hK => ?step12) AllReadyH.nil
                  case hi12 => simp only [List.getElem?_toArray, List.getElem?_cons_zero, List.getElem?_cons_succ]; rfl
                  refine Kd.R_lit_step kI (w0 := wr) wr.heap.size 3 (by rfl) (N := 44) rfl (xs := [p]) (inner := [.int .i64 p]) (ok := fun _ => True) (okp := fun _ => True) (by go_simp) (Reps.one (show Kd.M kI _ _ _ p [.int .i64 p] from rfl) (Reps.none _ _)) (fun _ hk => hk) trivial HBq.out HBq.out.size (by simp) ?_
                  intro v44 wB hE hbA hgA hnA
                  refine hK.out _ _ (HB3.out.trans (hbA.mono HB3.out.size)) (fun hHeld => ?_)
                  have F39 := Aside0.mk (Kd.R_grown F39.out hgA (fun _ _ => by simp))
                  have FB := Aside0.mk hE
                  have HBq := Aside0.mk hbA
                  clear hK K hE hbA hgA hnA
                  simp only [Act.put, List.setIfInBounds_toArray, List.set_cons_zero, List.set_cons_succ]
                  refine wpAnyH_ready (rs := [12]) (by kernel_rfl) (by simp) ?_
                  refine AllReadyH.cons (o := ?oi13) ?hi13 (fun K hK => ?step13) AllReadyH.nil
                  case hi13 => simp only [List.getElem?_toArray, List.getElem?_cons_zero, List.getElem?_cons_succ]; rfl
                  obtain ⟨A44, c44, e44⟩ := Kd.R_slice FB.out
                  refine Kd.R_append_rows_step kI (Rr := fun z cs => cs = [.int .i64 z]) (w0 := wr) wr.heap.size (by rfl) (.tmp 39) (.tmp 44) 111 3 (.int .i64 0) 8 rfl Tryd.underlying111 info3 rfl (by decide) (by decide) v39 x [p] A44 1 c44 (fun _ => True) (fun _ => False) rfl e44 F39.out (by have h := FB.out; rw [e44] at h; exact (Kd.R_reads' h).2.2) (fun z cs h => h) (fun z hz => hz.elim) (fun _ _ => trivial) HBq.out HBq.out.size (by omega) ?_
                  intro v45 wD hE hbA hgA hnA
                  refine hK.out _ _ (HB3.out.trans (hbA.mono HB3.out.size)) (fun hHeld => ?_)
                  generalize hxp : x ++ [p] = y at hE
                  have HY := Aside0.mk hxp
                  clear hxp
                  obtain ⟨A45, c45, rfl⟩ := Kd.R_slice hE
                  have HM45 := Aside0.mk (kR.M_lower HB3.out.size (Kd.M_new (d := kR) ⟨_, rfl, hE⟩ HW8.out))
                  have HR8 := Aside0.mk (Kd.R_below HR3.out hbA)
                  have HBq := Aside0.mk hbA
                  clear hK K hE hbA hgA hnA e44
                  simp only [Act.put, List.setIfInBounds_toArray, List.set_cons_zero, List.set_cons_succ]
                  refine wpAnyH_ready (rs := [13]) (by kernel_rfl) (by simp) ?_
                  refine AllReadyH.cons (o := ?oi14) ?hi14 (fun K hK => ?step14) AllReadyH.nil
                  case hi14 => simp only [List.getElem?_toArray, List.getElem?_cons_zero, List.getElem?_cons_succ]; rfl
                  go_simp
                  refine hK.out _ _ (below_alloc hHeld _) (fun hHeld2 => ?_)
                  clear hK K
                  (try simp only [Act.put, List.setIfInBounds_toArray, List.set_cons_zero, List.set_cons_succ])
                  refine wpAnyH_ready (rs := [14]) (by kernel_rfl) (by simp) ?_
                  refine AllReadyH.cons (o := ?oi15) ?hi15 (fun K hK => ?step15) AllReadyH.nil
                  case hi15 => simp only [List.getElem?_toArray, List.getElem?_cons_zero, List.getElem?_cons_succ]; rfl
                  refine Kd.R_append_step kR (w0 := W0) (W := wD) W0.heap.size (by rfl) (.tmp 33) (.tmp 46) 108 111 (.slice none 0 0) 24 rfl Tryd.underlying108 info111 rfl (by decide) (by decide) (.slice A8 acc.length c8) acc y [.slice A45 y.length c45] (fun _ => True) (fun z => True ∧ some z ≠ (Value.slice A8 acc.length c8).ownBlock) rfl rfl HM45.out (fun z hz => ⟨trivial, hz.2⟩) (fun _ _ => trivial) HR8.out hHeld hHeld.size hla ?_
                  intro v8 wE hE hbA hgA hnA
                  refine hK.out _ _ hbA (fun hHeld => ?_)
                  have HO8 := Aside0.mk hE
                  have HBE := Aside0.mk hbA
                  clear hK K hE hbA hgA hnA
                  simp only [Act.put, List.setIfInBounds_toArray, List.set_cons_zero, List.set_cons_succ]
                  refine take_ (oi := ?oi16) (i := 15) (N := some 8) (v := ?v16) ?hi16 (by kernel_rfl) (by kernel_rfl) (by kernel_rfl) ?hQ16 ?hN16 (Or.inl ⟨?hw16, ?hy16⟩) hHeld ?rest16
                  case hi16 => simp only [List.getElem?_toArray, List.getElem?_cons_zero, List.getElem?_cons_succ]; rfl
                  case hQ16 => exact fun _ _ _ h => h
                  case hN16 => rfl
                  case hw16 => rfl
                  case hy16 => intro W hSw; have z0 := pw_cell_below (show Below _ _ W from hSw) gx; have z1 := pw_cell_below (show Below _ _ W from hSw) gp; go_simp; (try with_reducible rfl)
                  simp only [Act.put, List.setIfInBounds_toArray, List.set_cons_zero, List.set_cons_succ]
                  refine wpAnyH_done (by kernel_rfl) ?_ _
                  refine NoPanic.normal ?_
                  have HL4 : Aside0 (∀ z ∈ acc ++ [y], z.length = k + 1) := ⟨fun z hz => by
                    rcases List.mem_append.1 hz with h | h
                    · exact HL3.out z h
                    · rw [List.mem_singleton.1 h, ← HY.out, List.length_append, HXL.out]; rfl⟩
                  clear hHeld HR3 HL3 HB3 HM45 HR8 HBq F39 FB
                  go_wp2
                  go_roundw
                  case rel => exact ⟨j + 1, acc ++ [y], by go_num, by omega, by simp; omega, HL4, HO8, HBE⟩
                  case measure => simp [intOf]; omega
                refine AllReadyH.cons (o := ?oi17) ?hi17 (fun K hK => ?step17) AllReadyH.nil
                case hi17 => simp only [List.getElem?_toArray, List.getElem?_cons_zero, List.getElem?_cons_succ]; rfl
                refine Kd.R_lit_step kI (w0 := wr) wr.heap.size 3 (by rfl) (N := 44) rfl (xs := [p]) (inner := [.int .i64 p]) (ok := fun _ => True) (okp := fun _ => True) (by go_simp) (Reps.one (show Kd.M kI _ _ _ p [.int .i64 p] from rfl) (Reps.none _ _)) (fun _ hk => hk) trivial HBq.out HBq.out.size (by simp) ?_
                intro v44 wB hE hbA hgA hnA
                refine hK.out _ _ (HB3.out.trans (hbA.mono HB3.out.size)) (fun hHeld => ?_)
                have hlt34 := Kd.R_lt FE.out
                have FE := Aside0.mk (Kd.R_grown FE.out hgA (fun _ _ => by simp))
                have FB := Aside0.mk (Kd.R_flat (d := kI) (ok' := fun q => some q ≠ v34.ownBlock) (fun h => h) hE (fun q hq _ e => by obtain ⟨b, hb1, hb2⟩ := hnA; rw [hb1] at hq; cases hq; have := hlt34 _ e.symm; omega))
                clear hlt34
                have HBq := Aside0.mk hbA
                clear hK K hE hbA hgA hnA
                simp only [Act.put, List.setIfInBounds_toArray, List.set_cons_zero, List.set_cons_succ]
                refine wpAnyH_ready (rs := [6]) (by kernel_rfl) (by simp) ?_
                refine AllReadyH.cons (o := ?oi18) ?hi18 (fun K hK => ?step18) AllReadyH.nil
                case hi18 => simp only [List.getElem?_toArray, List.getElem?_cons_zero, List.getElem?_cons_succ]; rfl
                refine Kd.R_append_rows_step kI (Rr := fun z cs => cs = [.int .i64 z]) (w0 := wr) wr.heap.size (by rfl) (.tmp 34) (.tmp 38) 111 3 (.int .i64 0) 8 rfl Tryd.underlying111 info3 rfl (by decide) (by decide) v34 [] x Ax x.length cx (fun _ => True) (fun _ => False) rfl rfl FE.out (Kd.C_below HXC.out hHeld) (fun z cs h => h) (fun z hz => hz.elim) (fun _ _ => trivial) HBq.out HBq.out.size (by simp; omega) ?_
                intro v39 wC hE hbA hgA hnA
                refine hK.out _ _ (HB3.out.trans (hbA.mono HB3.out.size)) (fun hHeld => ?_)
                rw [List.nil_append] at hE
                have F39 := Aside0.mk hE
                have FB := Aside0.mk (Kd.R_grown FB.out hgA (fun q hq => hq))
                have HBq := Aside0.mk hbA
                clear hK K hE hbA hgA hnA FE
                simp only [Act.put, List.setIfInBounds_toArray, List.set_cons_zero, List.set_cons_succ]
                refine wpAnyH_ready (rs := [12]) (by kernel_rfl) (by simp) ?_
                refine AllReadyH.cons (o := ?oi19) ?hi19 (fun K hK => ?step19) AllReadyH.nil
                case hi19 => simp only [List.getElem?_toArray, List.getElem?_cons_zero, List.getElem?_cons_succ]; rfl
                obtain ⟨A44, c44, e44⟩ := Kd.R_slice FB.out
                refine Kd.R_append_rows_step kI (Rr := fun z cs => cs = [.int .i64 z]) (w0 := wr) wr.heap.size (by rfl) (.tmp 39) (.tmp 44) 111 3 (.int .i64 0) 8 rfl Tryd.underlying111 info3 rfl (by decide) (by decide) v39 x [p] A44 1 c44 (fun _ => True) (fun _ => False) rfl e44 F39.out (by have h := FB.out; rw [e44] at h; exact (Kd.R_reads' h).2.2) (fun z cs h => h) (fun z hz => hz.elim) (fun _ _ => trivial) HBq.out HBq.out.size (by omega) ?_
                intro v45 wD hE hbA hgA hnA
                refine hK.out _ _ (HB3.out.trans (hbA.mono HB3.out.size)) (fun hHeld => ?_)
                generalize hxp : x ++ [p] = y at hE
                have HY := Aside0.mk hxp
                clear hxp
                obtain ⟨A45, c45, rfl⟩ := Kd.R_slice hE
                have HM45 := Aside0.mk (kR.M_lower HB3.out.size (Kd.M_new (d := kR) ⟨_, rfl, hE⟩ HW8.out))
                have HR8 := Aside0.mk (Kd.R_below HR3.out hbA)
                have HBq := Aside0.mk hbA
                clear hK K hE hbA hgA hnA e44
                simp only [Act.put, List.setIfInBounds_toArray, List.set_cons_zero, List.set_cons_succ]
                refine wpAnyH_ready (rs := [13]) (by kernel_rfl) (by simp) ?_
                refine AllReadyH.cons (o := ?oi20) ?hi20 (fun K hK => ?step20) AllReadyH.nil
                case hi20 => simp only [List.getElem?_toArray, List.getElem?_cons_zero, List.getElem?_cons_succ]; rfl
                go_simp
                refine hK.out _ _ (below_alloc hHeld _) (fun hHeld2 => ?_)
                clear hK K
                (try simp only [Act.put, List.setIfInBounds_toArray, List.set_cons_zero, List.set_cons_succ])
                refine wpAnyH_ready (rs := [14]) (by kernel_rfl) (by simp) ?_
                refine AllReadyH.cons (o := ?oi21) ?hi21 (fun K hK => ?step21) AllReadyH.nil
                case hi21 => simp only [List.getElem?_toArray, List.getElem?_cons_zero, List.getElem?_cons_succ]; rfl
                refine Kd.R_append_step kR (w0 := W0) (W := wD) W0.heap.size (by rfl) (.tmp 33) (.tmp 46) 108 111 (.slice none 0 0) 24 rfl Tryd.underlying108 info111 rfl (by decide) (by decide) (.slice A8 acc.length c8) acc y [.slice A45 y.length c45] (fun _ => True) (fun z => True ∧ some z ≠ (Value.slice A8 acc.length c8).ownBlock) rfl rfl HM45.out (fun z hz => ⟨trivial, hz.2⟩) (fun _ _ => trivial) HR8.out hHeld hHeld.size hla ?_
                intro v8 wE hE hbA hgA hnA
                refine hK.out _ _ hbA (fun hHeld => ?_)
                have HO8 := Aside0.mk hE
                have HBE := Aside0.mk hbA
                clear hK K hE hbA hgA hnA
                simp only [Act.put, List.setIfInBounds_toArray, List.set_cons_zero, List.set_cons_succ]
                refine take_ (oi := ?oi22) (i := 15) (N := some 8) (v := ?v22) ?hi22 (by kernel_rfl) (by kernel_rfl) (by kernel_rfl) ?hQ22 ?hN22 (Or.inl ⟨?hw22, ?hy22⟩) hHeld ?rest22
                case hi22 => simp only [List.getElem?_toArray, List.getElem?_cons_zero, List.getElem?_cons_succ]; rfl
                case hQ22 => exact fun _ _ _ h => h
                case hN22 => rfl
                case hw22 => rfl
                case hy22 => intro W hSw; have z0 := pw_cell_below (show Below _ _ W from hSw) gx; have z1 := pw_cell_below (show Below _ _ W from hSw) gp; go_simp; (try with_reducible rfl)
                simp only [Act.put, List.setIfInBounds_toArray, List.set_cons_zero, List.set_cons_succ]
                refine wpAnyH_done (by kernel_rfl) ?_ _
                refine NoPanic.normal ?_
                have HL4 : Aside0 (∀ z ∈ acc ++ [y], z.length = k + 1) := ⟨fun z hz => by
                  rcases List.mem_append.1 hz with h | h
                  · exact HL3.out z h
                  · rw [List.mem_singleton.1 h, ← HY.out, List.length_append, HXL.out]; rfl⟩
                clear hHeld HR3 HL3 HB3 HM45 HR8 HBq F39 FB
                go_wp2
                go_roundw
                case rel => exact ⟨j + 1, acc ++ [y], by go_num, by omega, by simp; omega, HL4, HO8, HBE⟩
                case measure => simp [intOf]; omega
              refine AllReadyH.cons (o := ?oi23) ?hi23 (fun K hK => ?step23) AllReadyH.nil
              case hi23 => simp only [List.getElem?_toArray, List.getElem?_cons_zero, List.getElem?_cons_succ]; rfl
              refine Kd.R_lit_step kI (w0 := wr) wr.heap.size 3 (by rfl) (N := 44) rfl (xs := [p]) (inner := [.int .i64 p]) (ok := fun _ => True) (okp := fun _ => True) (by go_simp) (Reps.one (show Kd.M kI _ _ _ p [.int .i64 p] from rfl) (Reps.none _ _)) (fun _ hk => hk) trivial HBq.out HBq.out.size (by simp) ?_
              intro v44 wB hE hbA hgA hnA
              refine hK.out _ _ (HB3.out.trans (hbA.mono HB3.out.size)) (fun hHeld => ?_)
              have FB := Aside0.mk hE
              have HBq := Aside0.mk hbA
              clear hK K hE hbA hgA hnA
              simp only [Act.put, List.setIfInBounds_toArray, List.set_cons_zero, List.set_cons_succ]
              refine wpAnyH_ready (rs := [1]) (by kernel_rfl) (by simp) ?_
              refine AllReadyH.cons (o := ?oi24) ?hi24 (fun K hK => ?step24) AllReadyH.nil
              case hi24 => simp only [List.getElem?_toArray, List.getElem?_cons_zero, List.getElem?_cons_succ]; rfl
              refine Kd.R_lit_step kI (w0 := wr) wr.heap.size 3 (by rfl) (N := 34) rfl (xs := ([] : List Int)) (inner := []) (ok := fun _ => True) (okp := fun _ => True) (by go_simp) (Reps.none _ _) (fun _ hk => hk) trivial HBq.out HBq.out.size (by simp) ?_
              intro v34 wA hE hbA hgA hnA
              refine hK.out _ _ (HB3.out.trans (hbA.mono HB3.out.size)) (fun hHeld => ?_)
              have FE := Aside0.mk hE
              have hlt44 := Kd.R_lt FB.out
              have FB := Aside0.mk (Kd.R_flat (d := kI) (ok' := fun q => some q ≠ v34.ownBlock) (fun h => h) (Kd.R_grown FB.out hgA (fun _ _ => by simp)) (fun q hq _ e => by obtain ⟨b, hb1, hb2⟩ := hnA; rw [hb1] at e; cases e; have := hlt44 _ hq; omega))
              clear hlt44
              have HBq := Aside0.mk hbA
              clear hK K hE hbA hgA hnA
              simp only [Act.put, List.setIfInBounds_toArray, List.set_cons_zero, List.set_cons_succ]
              refine wpAnyH_ready (rs := [6]) (by kernel_rfl) (by simp) ?_
              refine AllReadyH.cons (o := ?oi25) ?hi25 (fun K hK => ?step25) AllReadyH.nil
              case hi25 => simp only [List.getElem?_toArray, List.getElem?_cons_zero, List.getElem?_cons_succ]; rfl
              refine Kd.R_append_rows_step kI (Rr := fun z cs => cs = [.int .i64 z]) (w0 := wr) wr.heap.size (by rfl) (.tmp 34) (.tmp 38) 111 3 (.int .i64 0) 8 rfl Tryd.underlying111 info3 rfl (by decide) (by decide) v34 [] x Ax x.length cx (fun _ => True) (fun _ => False) rfl rfl FE.out (Kd.C_below HXC.out hHeld) (fun z cs h => h) (fun z hz => hz.elim) (fun _ _ => trivial) HBq.out HBq.out.size (by simp; omega) ?_
              intro v39 wC hE hbA hgA hnA
              refine hK.out _ _ (HB3.out.trans (hbA.mono HB3.out.size)) (fun hHeld => ?_)
              rw [List.nil_append] at hE
              have F39 := Aside0.mk hE
              have FB := Aside0.mk (Kd.R_grown FB.out hgA (fun q hq => hq))
              have HBq := Aside0.mk hbA
              clear hK K hE hbA hgA hnA FE
              simp only [Act.put, List.setIfInBounds_toArray, List.set_cons_zero, List.set_cons_succ]
              refine wpAnyH_ready (rs := [12]) (by kernel_rfl) (by simp) ?_
              refine AllReadyH.cons (o := ?oi26) ?hi26 (fun K hK => ?step26) AllReadyH.nil
              case hi26 => simp only [List.getElem?_toArray, List.getElem?_cons_zero, List.getElem?_cons_succ]; rfl
              obtain ⟨A44, c44, e44⟩ := Kd.R_slice FB.out
              refine Kd.R_append_rows_step kI (Rr := fun z cs => cs = [.int .i64 z]) (w0 := wr) wr.heap.size (by rfl) (.tmp 39) (.tmp 44) 111 3 (.int .i64 0) 8 rfl Tryd.underlying111 info3 rfl (by decide) (by decide) v39 x [p] A44 1 c44 (fun _ => True) (fun _ => False) rfl e44 F39.out (by have h := FB.out; rw [e44] at h; exact (Kd.R_reads' h).2.2) (fun z cs h => h) (fun z hz => hz.elim) (fun _ _ => trivial) HBq.out HBq.out.size (by omega) ?_
              intro v45 wD hE hbA hgA hnA
              refine hK.out _ _ (HB3.out.trans (hbA.mono HB3.out.size)) (fun hHeld => ?_)
              generalize hxp : x ++ [p] = y at hE
              have HY := Aside0.mk hxp
              clear hxp
              obtain ⟨A45, c45, rfl⟩ := Kd.R_slice hE
              have HM45 := Aside0.mk (kR.M_lower HB3.out.size (Kd.M_new (d := kR) ⟨_, rfl, hE⟩ HW8.out))
              have HR8 := Aside0.mk (Kd.R_below HR3.out hbA)
              have HBq := Aside0.mk hbA
              clear hK K hE hbA hgA hnA e44
              simp only [Act.put, List.setIfInBounds_toArray, List.set_cons_zero, List.set_cons_succ]
              refine wpAnyH_ready (rs := [13]) (by kernel_rfl) (by simp) ?_
              refine AllReadyH.cons (o := ?oi27) ?hi27 (fun K hK => ?step27) AllReadyH.nil
              case hi27 => simp only [List.getElem?_toArray, List.getElem?_cons_zero, List.getElem?_cons_succ]; rfl
              go_simp
              refine hK.out _ _ (below_alloc hHeld _) (fun hHeld2 => ?_)
              clear hK K
              (try simp only [Act.put, List.setIfInBounds_toArray, List.set_cons_zero, List.set_cons_succ])
              refine wpAnyH_ready (rs := [14]) (by kernel_rfl) (by simp) ?_
              refine AllReadyH.cons (o := ?oi28) ?hi28 (fun K hK => ?step28) AllReadyH.nil
              case hi28 => simp only [List.getElem?_toArray, List.getElem?_cons_zero, List.getElem?_cons_succ]; rfl
              refine Kd.R_append_step kR (w0 := W0) (W := wD) W0.heap.size (by rfl) (.tmp 33) (.tmp 46) 108 111 (.slice none 0 0) 24 rfl Tryd.underlying108 info111 rfl (by decide) (by decide) (.slice A8 acc.length c8) acc y [.slice A45 y.length c45] (fun _ => True) (fun z => True ∧ some z ≠ (Value.slice A8 acc.length c8).ownBlock) rfl rfl HM45.out (fun z hz => ⟨trivial, hz.2⟩) (fun _ _ => trivial) HR8.out hHeld hHeld.size hla ?_
              intro v8 wE hE hbA hgA hnA
              refine hK.out _ _ hbA (fun hHeld => ?_)
              have HO8 := Aside0.mk hE
              have HBE := Aside0.mk hbA
              clear hK K hE hbA hgA hnA
              simp only [Act.put, List.setIfInBounds_toArray, List.set_cons_zero, List.set_cons_succ]
              refine take_ (oi := ?oi29) (i := 15) (N := some 8) (v := ?v29) ?hi29 (by kernel_rfl) (by kernel_rfl) (by kernel_rfl) ?hQ29 ?hN29 (Or.inl ⟨?hw29, ?hy29⟩) hHeld ?rest29
              case hi29 => simp only [List.getElem?_toArray, List.getElem?_cons_zero, List.getElem?_cons_succ]; rfl
              case hQ29 => exact fun _ _ _ h => h
              case hN29 => rfl
              case hw29 => rfl
              case hy29 => intro W hSw; have z0 := pw_cell_below (show Below _ _ W from hSw) gx; have z1 := pw_cell_below (show Below _ _ W from hSw) gp; go_simp; (try with_reducible rfl)
              simp only [Act.put, List.setIfInBounds_toArray, List.set_cons_zero, List.set_cons_succ]
              refine wpAnyH_done (by kernel_rfl) ?_ _
              refine NoPanic.normal ?_
              have HL4 : Aside0 (∀ z ∈ acc ++ [y], z.length = k + 1) := ⟨fun z hz => by
                rcases List.mem_append.1 hz with h | h
                · exact HL3.out z h
                · rw [List.mem_singleton.1 h, ← HY.out, List.length_append, HXL.out]; rfl⟩
              clear hHeld HR3 HL3 HB3 HM45 HR8 HBq F39 FB
              go_wp2
              go_roundw
              case rel => exact ⟨j + 1, acc ++ [y], by go_num, by omega, by simp; omega, HL4, HO8, HBE⟩
              case measure => simp [intOf]; omega
            · obtain rfl : j = pl.length := by omega
              go_wp2
              go_roundw
              case rel => exact ⟨i + 1, acc, by go_num, by omega, by omega, HL3, HR3, HB3⟩
              case measure => simp [intOf]; omega
        · obtain rfl : i = out.length := by omega
          go_wp2
          go_roundw
          case rel => exact ⟨k + 1, acc, by go_num, by omega, by rw [Nat.pow_succ]; exact Nat.le_trans hacc (Nat.mul_le_mul_right 70 hout), HL2, ⟨Kd.R_lower HR2.out HB0.out.size⟩, ⟨below_step HB0.out HB2.out⟩⟩
          case measure => simp [intOf]; omega
    · obtain rfl : k = m := by omega
      go_wp2
      go_ret
      exact ⟨A5, c5, out, rfl, HLEN.out, (Kd.R_reads' HR.out).2.2, HB.out⟩
end Go.Proofs.YtlcoodjkolponaaDoor.PRR
