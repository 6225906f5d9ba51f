/-
  Contract of spec.RRCover: it answers true where both lists have the same values at all places. Condition: at most 30 ranges together, at most three columns.
-/
import Derived.Test.YtlcoodjkolponaaDoorRUa
import Derived.Deep.Slices
namespace Go.Proofs.YtlcoodjkolponaaDoor.PRR
open Go.RowKit Go.Proofs.YtlcoodjkolponaaDoorW.PrintWords Go.Proofs.YtlcoodjkolponaaDoorW.PrintLast Go.Proofs.YtlcoodjkolponaaDoorW.PrintMore
set_option linter.unusedVariables false
set_option linter.unusedSimpArgs false
set_option maxRecDepth 100000
set_option maxHeartbeats 4000000

/-- A row's header alone. -/
abbrev Hd := Option Addr × Nat × Nat
abbrev kH : Kd Hd := Kd.scalar (fun h : Hd => Value.slice h.1 h.2.1 h.2.2) (fun _ => rfl)
def Rel (W : World) (h : Hd) (x : List S44) : Prop := h.2.1 = x.length ∧ x.length ≤ h.2.2 ∧ Kd.C k44 W h.1 x.length x
theorem Rel.below {W W' : World} {h : Hd} {x : List S44} (r : Rel W h x) (hb : Below W.heap.size W W') : Rel W' h x := ⟨r.1, r.2.1, Kd.C_below r.2.2 hb⟩
theorem to_heads {W : World} {A : Option Addr} {n : Nat} {xs : List (List S44)} (hC : Kd.C (Kd.slice 44 k44) W A n xs) (hn : xs.length = n) :
    ∃ hs : List Hd, hs.length = n ∧ Kd.C kH W A n hs ∧ ∀ i (h1 : i < hs.length) (h2 : i < xs.length), Rel W hs[i] xs[i] := by
  have each : ∀ i, i < n → ∃ h : Hd, (∀ ad, A = some ad → W.cell? (ad.add i) = some (.slice h.1 h.2.1 h.2.2)) ∧ ∃ x, xs[i]? = some x ∧ Rel W h x := by
    intro i hi
    obtain ⟨ad, A', c', rfl, hc, hle, hK⟩ := at_rows hC i hi (by omega)
    exact ⟨(A', xs[i].length, c'), fun ad' e => by cases e; exact hc, xs[i], List.getElem?_eq_getElem (by omega), rfl, hle, hK⟩
  obtain ⟨q, hq⟩ := Deep.choose_lt each
  refine ⟨(List.range n).map q, by simp, ⟨by simp, hC.2.1, fun h0 => ?_⟩, fun i h1 h2 => ?_⟩
  · obtain ⟨ad, e, _⟩ := hC.2.2 h0
    refine ⟨ad, e, fun j p hj => ?_⟩
    have hjl : j < n := by have := (List.getElem?_eq_some_iff.1 hj).1; simpa using this
    rw [List.getElem?_map, List.getElem?_range hjl] at hj
    obtain rfl := Option.some.inj hj
    refine ⟨[.slice (q j).1 (q j).2.1 (q j).2.2], rfl, rfl, fun u v hu => ?_⟩
    match u with
    | 0 =>
      simp only [List.getElem?_cons_zero, Option.some.injEq] at hu
      subst hu
      have h := (hq j hjl).1 ad e
      rw [show j * kH.sz + 0 = j from by show j * 1 + 0 = j; omega]
      exact h
    | u + 1 => simp at hu
  · have hi : i < n := by simpa using h1
    obtain ⟨_, x, hx, hr⟩ := hq i hi
    rw [List.getElem?_eq_getElem h2] at hx
    obtain rfl := Option.some.inj hx
    simpa using hr
theorem of_heads {W : World} {A : Option Addr} {n : Nat} {hs : List Hd} {xs : List (List S44)} (hn : xs.length = n) (hn2 : hs.length = n) (hC : Kd.C kH W A n hs) (hr : ∀ i (h1 : i < hs.length) (h2 : i < xs.length), Rel W hs[i] xs[i]) : Kd.C (Kd.slice 44 k44) W A n xs := by
  refine ⟨hn, hC.2.1, fun h0 => ?_⟩
  obtain ⟨ad, e, hA⟩ := hC.2.2 h0
  refine ⟨ad, e, fun j p hj => ?_⟩
  have hjl : j < xs.length := (List.getElem?_eq_some_iff.1 hj).1
  rw [List.getElem?_eq_getElem hjl] at hj
  obtain rfl := Option.some.inj hj
  have hjh : j < hs.length := by omega
  obtain ⟨cs, _, hK, hcell⟩ := hA j hs[j] (List.getElem?_eq_getElem hjh)
  obtain rfl : cs = [.slice hs[j].1 hs[j].2.1 hs[j].2.2] := hK
  have r := hr j hjh hjl
  refine ⟨[.slice hs[j].1 hs[j].2.1 hs[j].2.2], rfl, ⟨hs[j].1, hs[j].2.2, by rw [r.1], r.2.1, r.2.2⟩, hcell⟩
theorem has_ok (A0 : Option Addr) (c0 : Nat) (rows : List (List S44)) (A1 : Option Addr) (c1 : Nat) (at_ : List Int) (hf : ∀ x ∈ rows, ∀ y ∈ x, FineS y) (hr : rows.length ≤ 1000) (hl : at_.length ≤ 1000) (hc0 : rows.length ≤ c0) (hc1 : at_.length ≤ c1) (w : World)
    (h0 : Kd.C (Kd.slice 44 k44) w A0 rows.length rows) (h1 : Kd.C kI w A1 at_.length at_) :
    Calls Tryd.prog 72 #[.slice A0 rows.length c0, .slice A1 at_.length c1] w fun e w' => e = .returned (.bool (hasB rows at_)) ∧ Below w.heap.size w w' :=
  spec_RRHas.calls _ A0 c0 rows A1 c1 at_ (hasB rows at_) w h0 hc0 h1 hc1 (has_list rows at_ hf hr hl)
theorem cover_ok (A0 : Option Addr) (c0 : Nat) (a : List (List S44)) (A1 : Option Addr) (c1 : Nat) (b : List (List S44)) (hfa : ∀ x ∈ a, ∀ y ∈ x, FineS y) (hfb : ∀ x ∈ b, ∀ y ∈ x, FineS y) (hl : a.length + b.length ≤ 30) (hc0 : a.length ≤ c0) (hc1 : b.length ≤ c1) (m : Nat) (hm : m ≤ 3)
    (hEq : ∀ p, hasB a p = hasB b p) (w : World) (hA : Kd.C (Kd.slice 44 k44) w A0 a.length a) (hB : Kd.C (Kd.slice 44 k44) w A1 b.length b) :
    Calls Tryd.prog 35 #[.slice A0 a.length c0, .slice A1 b.length c1, .int .i64 (m : Int)] w fun e w' => e = .returned (.bool true) ∧ Below w.heap.size w w' := by
  have HH0 := Aside0.mk (fun W (hb : Below w.heap.size w W) p Ap cp (hl1 : p.length ≤ 1000) (hc : p.length ≤ cp) h1 => has_ok A0 c0 a Ap cp p hfa (by omega) hl1 hc0 hc W (Kd.C_below hA hb) h1)
  have HH1 := Aside0.mk (fun W (hb : Below w.heap.size w W) p Ap cp (hl1 : p.length ≤ 1000) (hc : p.length ≤ cp) h1 => has_ok A1 c1 b Ap cp p hfb (by omega) hl1 hc1 hc W (Kd.C_below hB hb) h1)
  obtain ⟨ha, na, Ha, Ra⟩ := to_heads hA rfl
  obtain ⟨hb, nb, Hb, Rb⟩ := to_heads hB rfl
  have HALL := Aside0.mk (fun W (hbw : Below w.heap.size w W) A c (hC : Kd.C kH W A (a ++ b).length (ha ++ hb)) (hc : (a ++ b).length ≤ c) => all_ok A c (a ++ b) (fun x hx => by
      rcases List.mem_append.1 hx with h | h
      · exact hfa x h
      · exact hfb x h) (by simp; omega) hc m hm W (of_heads (hs := ha ++ hb) rfl (by simp [na, nb]) hC (fun i h1 h2 => by
      by_cases hi : i < a.length
      · rw [List.getElem_append_left (by omega), List.getElem_append_left hi]
        exact (Ra i (by omega) hi).below hbw
      · rw [List.getElem_append_right (by omega), List.getElem_append_right (by omega)]
        simp only [na]
        exact (Rb (i - a.length) (by simp at h1; omega) (by simp at h2; omega)).below hbw)))
  have HE := Aside0.mk hEq
  have HCa := Aside0.mk (fun W (hbw : Below w.heap.size w W) => Kd.C_below Ha hbw)
  have HCb := Aside0.mk (fun W (hbw : Below w.heap.size w W) => Kd.C_below Hb hbw)
  have HAB : Aside0 ((a ++ b).length = (ha ++ hb).length) := ⟨by simp [na, nb]⟩
  have na' := Aside0.mk na
  have nb' := Aside0.mk nb
  have hna : ha.length ≤ 30 := by omega
  have hnab : ha.length + hb.length ≤ 30 := by omega
  have hl30 := hl
  clear hA hB hfa hfb Ha Hb Ra Rb hEq hl hc0 hc1
  have hn30 : a.length ≤ 30 := by omega
  have hm30 : a.length + b.length ≤ 30 := by omega
  generalize a.length = n1 at *
  generalize b.length = n2 at *
  obtain ⟨hab, hhab⟩ : ∃ hab, ha ++ hb = hab := ⟨_, rfl⟩
  rw [hhab] at HALL HAB
  generalize (a ++ b).length = n3 at *
  have e3 := HAB.out
  subst e3
  have Hhab := Aside0.mk hhab
  clear hhab HAB
  go_enter Tryd.func35, Tryd.ntmps35
  go_wp2_with (first
    | ((with_reducible refine gate_dst (N := 9) rfl ?_); refine Kd.R_lit kH (w0 := w) w.heap.size 40 ?hg (N := 9) ?hd (xs := ([] : List Hd)) (inner := []) (ok := fun _ => True) (okp := fun _ => True) ?hr ?hp (fun _ hk => hk) trivial (Below.refl _ _) (Nat.le_refl _) (by simp) ?_; (case hd => rfl); (case hg => rfl); (case hr => first | (go_simp; done) | (go_simp; rfl)); (case hp => exact Reps.none _ _); intro v9 w2 ho hb2 hg_ hnew_; clear hg_ hnew_; have HO2 := Aside0.mk ho; have HB2 := Aside0.mk hb2; clear ho hb2)
    | ((with_reducible refine gate_builtin (b := .append) (xs := #[.tmp 9, .tmp 10]) rfl ?_); at_builtin; go_loud (refine Kd.R_append_rows kH (Rr := fun z cs => cs = [Value.slice z.1 z.2.1 z.2.2]) (w0 := w) (W := w2) w.heap.size rfl (.tmp 9) (.tmp 10) 33 40 (.slice none 0 0) 24 rfl Tryd.underlying33 info40 rfl (by decide) (by decide) v9 [] ha A0 n1 c0 (fun _ => True) (fun _ => False) rfl rfl HO2.out (HCa.out w2 HB2.out) (fun z cs h => h) (fun z hz => hz.elim) (fun _ _ => trivial) HB2.out HB2.out.size (by simp; omega) ?_; intro v11 w4 ho hb6 hg6 hat; clear hat hg6; have HOw4 := Aside0.mk ho; have HBw4 := Aside0.mk hb6; clear ho hb6))
    | ((with_reducible refine gate_builtin (b := .append) (xs := #[.tmp 11, .tmp 12]) rfl ?_); at_builtin; go_loud (refine Kd.R_append_rows kH (Rr := fun z cs => cs = [Value.slice z.1 z.2.1 z.2.2]) (w0 := w) (W := w4) w.heap.size rfl (.tmp 11) (.tmp 12) 33 40 (.slice none 0 0) 24 rfl Tryd.underlying33 info40 rfl (by decide) (by decide) v11 ([] ++ ha) hb A1 n2 c1 (fun _ => True) (fun _ => False) rfl rfl HOw4.out (HCb.out w4 HBw4.out) (fun z cs h => h) (fun z hz => hz.elim) (fun _ _ => trivial) HBw4.out HBw4.out.size (by simp; omega) ?_; intro v13 w5 ho hb6 hg6 hat; clear hat hg6; rw [List.nil_append, Hhab.out] at ho; obtain ⟨A13, c13, rfl⟩ := Kd.R_slice ho; have HOw5 := Aside0.mk ho; have HBw5 := Aside0.mk hb6; clear ho hb6))
    | (go_at_call 71; refine (HALL.out w5 HBw5.out A13 c13 (Kd.R_reads' HOw5.out).2.2 (Kd.R_reads' HOw5.out).2.1).mono ?_; rintro e w6 ⟨A7, c7, out, rfl, hlo, hCo, hb⟩; have hbd : out.length ≤ 9223372036854775807 := hCo.2.1; have HCo := Aside0.mk hCo; have HLo := Aside0.mk hlo; have HB6 := Aside0.mk (below_step HBw5.out hb); clear hCo hlo hb))
  go_loopw [8] (fun t8 wr => ∃ j : Nat, t8 = .int .i64 (j : Int) ∧ j ≤ out.length ∧ Aside0 (Below w6.heap.size w6 wr)) (fun t8 _ => out.length - (intOf t8).toNat)
  case atStart => exact ⟨0, rfl, Nat.zero_le _, ⟨Below.refl _ _⟩⟩
  case round =>
    obtain ⟨j, rfl, hj, HB⟩ := hrel
    rcases Nat.lt_or_ge j out.length with hlt | hge
    · obtain ⟨ad7, Ap, cp, rfl, gp, hle, hpC⟩ := at_rows HCo.out j hlt hlt
      have hpl : out[j].length ≤ 1000 := by rw [HLo.out _ (List.getElem_mem hlt)]; omega
      have S0 := Aside0.mk (fun W (h : Below w6.heap.size w6 W) => HH0.out W (below_step HB6.out h) out[j] Ap cp hpl hle (Kd.C_below hpC h))
      have S1 := Aside0.mk (fun W (h : Below w6.heap.size w6 W) => HH1.out W (below_step HB6.out h) out[j] Ap cp hpl hle (Kd.C_below hpC h))
      have hEE := HE.out out[j]
      rw [← hEE] at S1
      generalize hasB a out[j] = bb at *
      generalize out[j].length = pl at *
      have q0 := pw_cell_below HB.out gp
      clear hpC hEE hle hpl
      go_wp2
      refine wp_region_noPanic ?_
      refine wp_region_held_drew (S := fun W => Below wr.heap.size wr W) (by kernel_rfl) ?_ (fun hHeld => ?_)
      · exact below_drew (Below.refl _ _)
      refine take_ (oi := ?oi1) (i := 0) (N := some 22) (v := ?v1) ?hi1 (by kernel_rfl) (by kernel_rfl) (by kernel_rfl) ?hQ1 ?hN1 (Or.inl ⟨?hw1, ?hy1⟩) hHeld ?rest1
      case hi1 => simp only [List.getElem?_toArray, List.getElem?_cons_zero, List.getElem?_cons_succ]; rfl
      case hQ1 => exact fun _ _ _ h => h
      case hN1 => rfl
      case hw1 => rfl
      case hy1 => intro W hSw; have z0 := pw_cell_below (show Below _ _ W from hSw) q0; go_simp; (try with_reducible rfl)
      simp only [Act.put, List.setIfInBounds_toArray, List.set_cons_zero, List.set_cons_succ]
      refine take_ (oi := ?oi2) (i := 1) (N := some 23) (v := ?v2) ?hi2 (by kernel_rfl) (by kernel_rfl) (by kernel_rfl) ?hQ2 ?hN2 (Or.inl ⟨?hw2, ?hy2⟩) hHeld ?rest2
      case hi2 => simp only [List.getElem?_toArray, List.getElem?_cons_zero, List.getElem?_cons_succ]; rfl
      case hQ2 => exact fun _ _ _ h => h
      case hN2 => rfl
      case hw2 => rfl
      case hy2 => intro W hSw; have z0 := pw_cell_below (show Below _ _ W from hSw) q0; go_simp; (try with_reducible rfl)
      simp only [Act.put, List.setIfInBounds_toArray, List.set_cons_zero, List.set_cons_succ]
      refine take_ (oi := ?oi3) (i := 2) (N := some 24) (v := ?v3) ?hi3 (by kernel_rfl) (by kernel_rfl) (by kernel_rfl) ?hQ3 ?hN3 (Or.inl ⟨?hw3, ?hy3⟩) hHeld ?rest3
      case hi3 => simp only [List.getElem?_toArray, List.getElem?_cons_zero, List.getElem?_cons_succ]; rfl
      case hQ3 => exact fun _ _ _ h => h
      case hN3 => rfl
      case hw3 => rfl
      case hy3 => intro W hSw; have z0 := pw_cell_below (show Below _ _ W from hSw) q0; go_simp; (try with_reducible rfl)
      simp only [Act.put, List.setIfInBounds_toArray, List.set_cons_zero, List.set_cons_succ]
      refine take_ (oi := ?oi4) (i := 3) (N := some 25) (v := ?v4) ?hi4 (by kernel_rfl) (by kernel_rfl) (by kernel_rfl) ?hQ4 ?hN4 (Or.inl ⟨?hw4, ?hy4⟩) hHeld ?rest4
      case hi4 => simp only [List.getElem?_toArray, List.getElem?_cons_zero, List.getElem?_cons_succ]; rfl
      case hQ4 => exact fun _ _ _ h => h
      case hN4 => rfl
      case hw4 => rfl
      case hy4 => intro W hSw; have z0 := pw_cell_below (show Below _ _ W from hSw) q0; go_simp; (try with_reducible rfl)
      simp only [Act.put, List.setIfInBounds_toArray, List.set_cons_zero, List.set_cons_succ]
      refine take_ (oi := ?oi5) (i := 4) (N := some 26) (v := ?v5) ?hi5 (by kernel_rfl) (by kernel_rfl) (by kernel_rfl) ?hQ5 ?hN5 (Or.inl ⟨?hw5, ?hy5⟩) hHeld ?rest5
      case hi5 => simp only [List.getElem?_toArray, List.getElem?_cons_zero, List.getElem?_cons_succ]; rfl
      case hQ5 => exact fun _ _ _ h => h
      case hN5 => rfl
      case hw5 => rfl
      case hy5 => intro W hSw; have z0 := pw_cell_below (show Below _ _ W from hSw) q0; go_simp; (try with_reducible rfl)
      simp only [Act.put, List.setIfInBounds_toArray, List.set_cons_zero, List.set_cons_succ]
      refine take_ (oi := ?oi6) (i := 6) (N := some 28) (v := ?v6) ?hi6 (by kernel_rfl) (by kernel_rfl) (by kernel_rfl) ?hQ6 ?hN6 (Or.inl ⟨?hw6, ?hy6⟩) hHeld ?rest6
      case hi6 => simp only [List.getElem?_toArray, List.getElem?_cons_zero, List.getElem?_cons_succ]; rfl
      case hQ6 => exact fun _ _ _ h => h
      case hN6 => rfl
      case hw6 => rfl
      case hy6 => intro W hSw; have z0 := pw_cell_below (show Below _ _ W from hSw) q0; go_simp; (try with_reducible rfl)
      simp only [Act.put, List.setIfInBounds_toArray, List.set_cons_zero, List.set_cons_succ]
      refine take_ (oi := ?oi7) (i := 7) (N := some 29) (v := ?v7) ?hi7 (by kernel_rfl) (by kernel_rfl) (by kernel_rfl) ?hQ7 ?hN7 (Or.inl ⟨?hw7, ?hy7⟩) hHeld ?rest7
      case hi7 => simp only [List.getElem?_toArray, List.getElem?_cons_zero, List.getElem?_cons_succ]; rfl
      case hQ7 => exact fun _ _ _ h => h
      case hN7 => rfl
      case hw7 => rfl
      case hy7 => intro W hSw; have z0 := pw_cell_below (show Below _ _ W from hSw) q0; go_simp; (try with_reducible rfl)
      simp only [Act.put, List.setIfInBounds_toArray, List.set_cons_zero, List.set_cons_succ]
      refine take_ (oi := ?oi8) (i := 8) (N := some 30) (v := ?v8) ?hi8 (by kernel_rfl) (by kernel_rfl) (by kernel_rfl) ?hQ8 ?hN8 (Or.inl ⟨?hw8, ?hy8⟩) hHeld ?rest8
      case hi8 => simp only [List.getElem?_toArray, List.getElem?_cons_zero, List.getElem?_cons_succ]; rfl
      case hQ8 => exact fun _ _ _ h => h
      case hN8 => rfl
      case hw8 => rfl
      case hy8 => intro W hSw; have z0 := pw_cell_below (show Below _ _ W from hSw) q0; go_simp; (try with_reducible rfl)
      simp only [Act.put, List.setIfInBounds_toArray, List.set_cons_zero, List.set_cons_succ]
      refine take_ (oi := ?oi9) (i := 9) (N := some 31) (v := ?v9) ?hi9 (by kernel_rfl) (by kernel_rfl) (by kernel_rfl) ?hQ9 ?hN9 (Or.inl ⟨?hw9, ?hy9⟩) hHeld ?rest9
      case hi9 => simp only [List.getElem?_toArray, List.getElem?_cons_zero, List.getElem?_cons_succ]; rfl
      case hQ9 => exact fun _ _ _ h => h
      case hN9 => rfl
      case hw9 => rfl
      case hy9 => intro W hSw; have z0 := pw_cell_below (show Below _ _ W from hSw) q0; go_simp; (try with_reducible rfl)
      simp only [Act.put, List.setIfInBounds_toArray, List.set_cons_zero, List.set_cons_succ]
      refine take_ (oi := ?oi10) (i := 10) (N := some 32) (v := ?v10) ?hi10 (by kernel_rfl) (by kernel_rfl) (by kernel_rfl) ?hQ10 ?hN10 (Or.inl ⟨?hw10, ?hy10⟩) hHeld ?rest10
      case hi10 => simp only [List.getElem?_toArray, List.getElem?_cons_zero, List.getElem?_cons_succ]; rfl
      case hQ10 => exact fun _ _ _ h => h
      case hN10 => rfl
      case hw10 => rfl
      case hy10 => intro W hSw; have z0 := pw_cell_below (show Below _ _ W from hSw) q0; go_simp; (try with_reducible rfl)
      simp only [Act.put, List.setIfInBounds_toArray, List.set_cons_zero, List.set_cons_succ]
      refine wpAnyH_ready (rs := [5]) (by kernel_rfl) (by simp) ?_
      refine AllReadyH.cons (o := ?oi11) ?hi11 (fun K hK => ?step11) AllReadyH.nil
      case hi11 => simp only [List.getElem?_toArray, List.getElem?_cons_zero, List.getElem?_cons_succ]; rfl
      refine goes_ (N := some 27) Tryd.func72 (by kernel_rfl) rfl #[.slice A0 n1 c0, .slice Ap pl cp] (by rfl) rfl rfl (by (try simp only [List.map_toArray, List.map_cons, List.map_nil]); rfl) ?_
      refine (S0.out _ (below_step HB.out hHeld)).mono ?_
      rintro e v5 ⟨rfl, hb⟩
      refine ⟨_, rfl, ?_⟩
      refine hK.out _ _ (below_step hHeld hb) (fun hHeld => ?_)
      clear hK K hb
      simp only [Act.put, List.setIfInBounds_toArray, List.set_cons_zero, List.set_cons_succ]
      refine wpAnyH_ready (rs := [11]) (by kernel_rfl) (by simp) ?_
      refine AllReadyH.cons (o := ?oi12) ?hi12 (fun K hK => ?step12) AllReadyH.nil
      case hi12 => simp only [List.getElem?_toArray, List.getElem?_cons_zero, List.getElem?_cons_succ]; rfl
      refine goes_ (N := some 33) Tryd.func72 (by kernel_rfl) rfl #[.slice A1 n2 c1, .slice Ap pl cp] (by rfl) rfl rfl (by (try simp only [List.map_toArray, List.map_cons, List.map_nil]); rfl) ?_
      refine (S1.out _ (below_step HB.out hHeld)).mono ?_
      rintro e v11 ⟨rfl, hb⟩
      refine ⟨_, rfl, ?_⟩
      refine hK.out _ _ (below_step hHeld hb) (fun hHeld => ?_)
      clear hK K hb
      simp only [Act.put, List.setIfInBounds_toArray, List.set_cons_zero, List.set_cons_succ]
      refine take_ (oi := ?oi13) (i := 12) (N := some 34) (v := ?v13) ?hi13 (by kernel_rfl) (by kernel_rfl) (by kernel_rfl) ?hQ13 ?hN13 (Or.inl ⟨?hw13, ?hy13⟩) hHeld ?rest13
      case hi13 => simp only [List.getElem?_toArray, List.getElem?_cons_zero, List.getElem?_cons_succ]; rfl
      case hQ13 => exact fun _ _ _ h => h
      case hN13 => rfl
      case hw13 => rfl
      case hy13 => intro W hSw; have z0 := pw_cell_below (show Below _ _ W from hSw) q0; go_simp; (try with_reducible rfl)
      simp only [Act.put, List.setIfInBounds_toArray, List.set_cons_zero, List.set_cons_succ]
      refine wpAnyH_done (by kernel_rfl) ?_ _
      refine NoPanic.normal ?_
      have HBv : Aside0 (Below w6.heap.size w6 v11) := ⟨below_step HB.out hHeld⟩
      clear hHeld q0
      go_wp2
      go_roundw
      case rel => exact ⟨j + 1, by go_num, by omega, HBv⟩
      case measure => simp [intOf]; omega
    · obtain rfl : j = out.length := by omega
      go_wp2
      go_ret
      exact ⟨rfl, below_step HB6.out HB.out⟩
end Go.Proofs.YtlcoodjkolponaaDoor.PRR
