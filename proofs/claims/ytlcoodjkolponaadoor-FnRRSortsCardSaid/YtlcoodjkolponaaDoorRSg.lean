/-
  laws.FnRRSorts walked: it answers true. Condition: the numbers are of 64 bits.
-/
import Derived.Test.YtlcoodjkolponaaDoorRSe
import Derived.Test.YtlcoodjkolponaaDoorRSf
namespace Go.Proofs.YtlcoodjkolponaaDoor.PRR
open Go.RowKit Go.Proofs.YtlcoodjkolponaaDoorW.PrintWords Go.Proofs.YtlcoodjkolponaaDoorW.PrintLast Go.Proofs.YtlcoodjkolponaaDoorW.PrintMore
open Go.Proofs.YtlcoodjkolponaaDoor.PRG (C cmpC typV)
set_option linter.unusedVariables false
set_option linter.unusedSimpArgs false
set_option maxRecDepth 100000
set_option maxHeartbeats 2000000

theorem sign_ok (z : Int) (w : World) : Calls Tryd.prog 12 #[.int .i64 z] w fun e w' => e = .returned (.int .i64 (sgn z)) ∧ Below w.heap.size w w' := by
  unfold sgn
  by_cases h1 : z < 0
  · rw [if_pos h1]
    go_enter Tryd.func12, Tryd.ntmps12
    go_wp2
    go_ret
    exact ⟨rfl, Below.refl _ _⟩
  · rw [if_neg h1]
    by_cases h2 : z > 0
    · rw [if_pos h2]
      go_enter Tryd.func12, Tryd.ntmps12
      go_wp2
      go_ret
      exact ⟨rfl, Below.refl _ _⟩
    · rw [if_neg h2]
      go_enter Tryd.func12, Tryd.ntmps12
      go_wp2
      go_ret
      exact ⟨rfl, Below.refl _ _⟩
/-- A row of m columns that lies in a world. -/
structure Lies (W : World) (m : Nat) (x : List S44) (A : Option Addr) (c : Nat) : Prop where
  len : x.length = m
  full : ∀ y ∈ x, FullS y
  cap : m ≤ c
  row : Kd.C k44 W A m x
theorem Lies.below {W W' : World} {m : Nat} {x : List S44} {A : Option Addr} {c : Nat} (h : Lies W m x A c) (hb : Below W.heap.size W W') : Lies W' m x A c := ⟨h.len, h.full, h.cap, Kd.C_below h.row hb⟩
theorem heads_m {L : List (List S44)} {N m : Nat} (hr : Rows m L) (hL : L.length = N) (h1 : 1 ≤ N) {W : World} {A : Option Addr} (hC : Kd.C (Kd.slice 44 k44) W A N L) :
    ∃ ad, A = some ad ∧ ∀ i (h : i < L.length), ∃ A' c', W.cell? (ad.add i) = some (.slice A' m c') ∧ Lies W m L[i] A' c' := by
  obtain ⟨ad, _, _, rfl, _⟩ := at_rows hC 0 (by omega) (by omega)
  refine ⟨ad, rfl, fun i h => ?_⟩
  obtain ⟨ad', A', c', e, hc, hle, hK⟩ := at_rows hC i (by omega) h
  cases e
  have hg := hr _ (List.getElem_mem h)
  rw [hg.1] at hc hle hK
  exact ⟨A', c', hc, hg.1, hg.2, hle, hK⟩
theorem same_m {W : World} {m : Nat} {a b : List S44} {A B : Option Addr} {c d : Nat} (h1 : Lies W m a A c) (h2 : Lies W m b B d) (hm1 : 1 ≤ m) (hm3 : m ≤ 3) :
    Calls Tryd.prog 19 #[.slice A m c, .slice B m d] W fun e w' => e = .returned (.bool (allS a b)) ∧ Below W.heap.size W w' := by
  have h := spec_RRSame.calls 10 A c a B d b (allS a b) W (by rw [h1.len]; exact h1.row) (by rw [h1.len]; exact h1.cap) (by rw [h2.len]; exact h2.row) (by rw [h2.len]; exact h2.cap)
    (same_list a b (fun x hx => (h1.full x hx).fine) h2.full (by rw [h1.len, h2.len]) (by rw [h2.len]; omega) (by rw [h2.len]; omega) 10 (by rw [h2.len]; omega))
  rw [h1.len, h2.len] at h
  exact h
theorem cmp_m {W : World} {m : Nat} {a b : List S44} {A B : Option Addr} {c d : Nat} (h1 : Lies W m a A c) (h2 : Lies W m b B d) (hm3 : m ≤ 3) :
    Calls Tryd.prog 20 #[.slice A m c, .slice B m d] W fun e w' => e = .returned (.tuple #[.int .i64 (cmpL (a.map toC) (b.map toC)), .bool true]) ∧ Below W.heap.size W w' := by
  have h := rrCompare_ok A c a B d b (by rw [h1.len]; omega) (by rw [h1.len, h2.len]) W (by rw [h1.len]; exact h1.row) (by rw [h2.len]; exact h2.row)
  rw [h1.len, h2.len] at h
  exact h
/-- A row and the one ahead of it. -/
structure Next (W3 : World) (ad : Addr) (m k : Nat) (Ax : Option Addr) (cx : Nat) (Ap : Option Addr) (cp : Nat) (c : Int) : Prop where
  cell : W3.cell? (ad.add (k - 1)) = some (.slice Ap m cp)
  up : ∀ W, Below W3.heap.size W3 W → Calls Tryd.prog 20 #[.slice Ap m cp, .slice Ax m cx] W fun e w' => e = .returned (.tuple #[.int .i64 c, .bool true]) ∧ Below W.heap.size W w'
  down : ∀ W, Below W3.heap.size W3 W → Calls Tryd.prog 20 #[.slice Ax m cx, .slice Ap m cp] W fun e w' => e = .returned (.tuple #[.int .i64 (-c), .bool true]) ∧ Below W.heap.size W w'
  same : ∀ W, Below W3.heap.size W3 W → Calls Tryd.prog 19 #[.slice Ax m cx, .slice Ap m cp] W fun e w' => e = .returned (.bool (c == 0)) ∧ Below W.heap.size W w'
  sign : c = -1 ∨ c = 0
theorem count_step {α : Type} (p : α → Bool) (l : List α) (j : Nat) (h : j < l.length) : (l.take (j + 1)).countP p = (l.take j).countP p + (if p l[j] = true then 1 else 0) := by
  rw [List.take_succ_eq_append_getElem h, List.countP_append, List.countP_singleton]
theorem law_ok (A0 : Option Addr) (c0 : Nat) (l : List (List S44)) (u : Int) (hu : 0 ≤ u ∧ u ≤ 255) (hx : ∀ x ∈ l, ∀ y ∈ x, WholeS y) (w : World) (hC : Kd.C (Kd.slice 44 k44) w A0 l.length l) :
    Calls Tryd.prog 4 #[.slice A0 l.length c0, .int .u8 u] w fun e w' => e = .returned (.bool true) ∧ Below w.heap.size w w' := by
  have HF := Aside0.mk (fits6_ok A0 c0 l w hC)
  have HL := Aside0.mk (fun W (hb : Below w.heap.size w W) => rrList_ok A0 c0 l u hu hx W (Kd.C_below hC hb))
  clear hC hx
  generalize l.length = n0 at *
  go_enter Tryd.func4, Tryd.ntmps4
  go_wp2_with fail
  refine HF.out.mono ?_
  rintro e w1 ⟨⟨b, rfl⟩, hb1⟩
  have HB1 := Aside0.mk hb1
  have HL1 := Aside0.mk (HL.out w1 hb1)
  clear HF HL hb1
  cases b
  · go_wp2
    go_ret
    exact ⟨rfl, HB1.out⟩
  go_wp2_with fail
  refine HL1.out.mono ?_
  rintro e w2 ⟨A1, c1, l1, z, m, rfl, hm3, hrows, hn1, hn6, hm1, hC1, hb2⟩
  have HB2 := Aside0.mk (below_step HB1.out hb2)
  have HS := Aside0.mk (rrSort_ok A1 c1 l1 m hn1 (by omega) (by omega) hrows w2 hC1)
  clear HL1 HB1 hb2
  have HLen : Aside0 (l1.length = l1.length) := ⟨rfl⟩
  generalize hN : l1.length = N at HS hC1 hn1 hn6 ⊢
  have HC1 := Aside0.mk hC1
  have HRW := Aside0.mk hrows
  have HN := Aside0.mk hN
  clear hC1 hrows hN HLen
  go_wp2_with fail
  refine HS.out.mono ?_
  rintro e w3 ⟨A2, c2, out, rfl, hso, hC2, hb3⟩
  have HB3 := Aside0.mk (below_step HB2.out hb3)
  have LO : out.length = N := hso.perm.length_eq.trans HN.out
  obtain ⟨ad1, rfl, h1⟩ := heads_m HRW.out HN.out hn1 (Kd.C_below HC1.out hb3)
  obtain ⟨ad2, rfl, h2⟩ := heads_m (Rows.out hso HRW.out) LO hn1 hC2
  have H1 : Aside0 (∀ i (h : i < l1.length), ∃ A' c', w3.cell? (ad1.add i) = some (.slice A' m c') ∧ Lies w3 m l1[i] A' c') := ⟨h1⟩
  have H2 : Aside0 (∀ i (h : i < out.length), ∃ A' c', w3.cell? (ad2.add i) = some (.slice A' m c') ∧ Lies w3 m out[i] A' c') := ⟨h2⟩
  have HSO := Aside0.mk hso
  have HLO := Aside0.mk LO
  clear HS HC1 HB2 hb3 hC2 h1 h2 hso LO
  go_wp2
  go_loopw [9] (fun t9 wr => ∃ k : Nat, t9 = .int .i64 (k : Int) ∧ k ≤ N ∧ Aside0 (Below w3.heap.size w3 wr)) (fun t9 _ => N - (intOf t9).toNat)
  case atStart => exact ⟨0, rfl, Nat.zero_le _, ⟨Below.refl _ _⟩⟩
  case round =>
    obtain ⟨k, rfl, hk, HB⟩ := hrel
    rcases Nat.lt_or_ge k N with hlt | hge
    · have hko : k < out.length := by rw [HLO.out]; exact hlt
      obtain ⟨Ax, cx, gx, lx⟩ := H2.out k hko
      have HX := Aside0.mk lx
      have HNX : Aside0 (0 < k → ∃ Ap cp c, Next w3 ad2 m k Ax cx Ap cp c) := ⟨fun hp => by
        obtain ⟨i, rfl⟩ : ∃ i, k = i + 1 := ⟨k - 1, by omega⟩
        obtain ⟨Ap, cp, gp, lp⟩ := H2.out i (by omega)
        have st := HSO.out.step HRW.out i hko
        refine ⟨Ap, cp, cmpL (out[i].map toC) (out[i + 1].map toC), gp, fun W hb => cmp_m (lp.below hb) (lx.below hb) hm3, fun W hb => ?_, fun W hb => ?_, st.2.2.1⟩
        · rw [← st.2.1]; exact cmp_m (lx.below hb) (lp.below hb) hm3
        · rw [st.2.2.2]; exact same_m (lx.below hb) (lp.below hb) hm1 hm3⟩
      have HCN := Aside0.mk (HSO.out.count (allS out[k]))
      generalize out[k] = x at *
      clear lx hko
      go_wp2
      go_loopw [10, 11, 12] (fun t10 t11 t12 wr => ∃ j n1 n2 : Nat, t12 = .int .i64 (j : Int) ∧ t10 = .int .i64 (n1 : Int) ∧ t11 = .int .i64 (n2 : Int) ∧ j ≤ N ∧ n1 ≤ j ∧ n2 ≤ j ∧ Aside0 (n1 = (l1.take j).countP (allS x)) ∧ Aside0 (n2 = (out.take j).countP (allS x)) ∧ Aside0 (Below w3.heap.size w3 wr)) (fun _ _ t12 _ => N - (intOf t12).toNat)
      case atStart => exact ⟨0, 0, 0, rfl, rfl, rfl, Nat.zero_le _, Nat.le_refl _, Nat.le_refl _, ⟨rfl⟩, ⟨rfl⟩, HB⟩
      case round =>
        obtain ⟨j, n1, n2, rfl, rfl, rfl, hj, hn1j, hn2j, E1, E2, HBr⟩ := hrel
        clear HB
        rcases Nat.lt_or_ge j N with hjl | hjg
        · have hj1 : j < l1.length := by rw [HN.out]; exact hjl
          have hj2 : j < out.length := by rw [HLO.out]; exact hjl
          obtain ⟨Ay, cy, gy, ly⟩ := H1.out j hj1
          obtain ⟨Az, cz, gz, lz⟩ := H2.out j hj2
          have S1 := Aside0.mk (fun W (hb : Below w3.heap.size w3 W) => same_m (HX.out.below hb) (ly.below hb) hm1 hm3)
          have S2 := Aside0.mk (fun W (hb : Below w3.heap.size w3 W) => same_m (HX.out.below hb) (lz.below hb) hm1 hm3)
          have F1 := Aside0.mk (count_step (allS x) l1 j hj1)
          have F2 := Aside0.mk (count_step (allS x) out j hj2)
          generalize allS x l1[j] = b1 at *
          generalize allS x out[j] = b2 at *
          have q0 := pw_cell_below HBr.out gx
          have q1 := pw_cell_below HBr.out gy
          have q2 := pw_cell_below HBr.out gz
          clear ly lz hj1 hj2 gy gz
          go_wp2
          refine wp_region_noPanic ?_
          refine wp_region_held_drew (S := fun W => Below wr.heap.size wr W) (by kernel_rfl) ?_ (fun hHeld => ?_)
          · exact below_drew (Below.refl _ _)
          refine take_ (oi := ?oi19) (i := 0) (N := some 52) (v := ?v19) ?hi19 (by kernel_rfl) (by kernel_rfl) (by kernel_rfl) ?hQ19 ?hN19 (Or.inl ⟨?hw19, ?hy19⟩) hHeld ?rest19
          case hi19 => simp only [List.getElem?_toArray, List.getElem?_cons_zero, List.getElem?_cons_succ]; rfl
          case hQ19 => exact fun _ _ _ h => h
          case hN19 => rfl
          case hw19 => rfl
          case hy19 => intro W hSw; have z0 := pw_cell_below (show Below _ _ W from hSw) q0; have z1 := pw_cell_below (show Below _ _ W from hSw) q1; go_simp; (try with_reducible rfl)
          simp only [Act.put, List.setIfInBounds_toArray, List.set_cons_zero, List.set_cons_succ]
          refine take_ (oi := ?oi20) (i := 1) (N := some 53) (v := ?v20) ?hi20 (by kernel_rfl) (by kernel_rfl) (by kernel_rfl) ?hQ20 ?hN20 (Or.inl ⟨?hw20, ?hy20⟩) hHeld ?rest20
          case hi20 => simp only [List.getElem?_toArray, List.getElem?_cons_zero, List.getElem?_cons_succ]; rfl
          case hQ20 => exact fun _ _ _ h => h
          case hN20 => rfl
          case hw20 => rfl
          case hy20 => intro W hSw; have z0 := pw_cell_below (show Below _ _ W from hSw) q0; have z1 := pw_cell_below (show Below _ _ W from hSw) q1; go_simp; (try with_reducible rfl)
          simp only [Act.put, List.setIfInBounds_toArray, List.set_cons_zero, List.set_cons_succ]
          refine take_ (oi := ?oi21) (i := 2) (N := some 54) (v := ?v21) ?hi21 (by kernel_rfl) (by kernel_rfl) (by kernel_rfl) ?hQ21 ?hN21 (Or.inl ⟨?hw21, ?hy21⟩) hHeld ?rest21
          case hi21 => simp only [List.getElem?_toArray, List.getElem?_cons_zero, List.getElem?_cons_succ]; rfl
          case hQ21 => exact fun _ _ _ h => h
          case hN21 => rfl
          case hw21 => rfl
          case hy21 => intro W hSw; have z0 := pw_cell_below (show Below _ _ W from hSw) q0; have z1 := pw_cell_below (show Below _ _ W from hSw) q1; go_simp; (try with_reducible rfl)
          simp only [Act.put, List.setIfInBounds_toArray, List.set_cons_zero, List.set_cons_succ]
          refine take_ (oi := ?oi22) (i := 3) (N := some 55) (v := ?v22) ?hi22 (by kernel_rfl) (by kernel_rfl) (by kernel_rfl) ?hQ22 ?hN22 (Or.inl ⟨?hw22, ?hy22⟩) hHeld ?rest22
          case hi22 => simp only [List.getElem?_toArray, List.getElem?_cons_zero, List.getElem?_cons_succ]; rfl
          case hQ22 => exact fun _ _ _ h => h
          case hN22 => rfl
          case hw22 => rfl
          case hy22 => intro W hSw; have z0 := pw_cell_below (show Below _ _ W from hSw) q0; have z1 := pw_cell_below (show Below _ _ W from hSw) q1; go_simp; (try with_reducible rfl)
          simp only [Act.put, List.setIfInBounds_toArray, List.set_cons_zero, List.set_cons_succ]
          refine take_ (oi := ?oi23) (i := 4) (N := some 56) (v := ?v23) ?hi23 (by kernel_rfl) (by kernel_rfl) (by kernel_rfl) ?hQ23 ?hN23 (Or.inl ⟨?hw23, ?hy23⟩) hHeld ?rest23
          case hi23 => simp only [List.getElem?_toArray, List.getElem?_cons_zero, List.getElem?_cons_succ]; rfl
          case hQ23 => exact fun _ _ _ h => h
          case hN23 => rfl
          case hw23 => rfl
          case hy23 => intro W hSw; have z0 := pw_cell_below (show Below _ _ W from hSw) q0; have z1 := pw_cell_below (show Below _ _ W from hSw) q1; go_simp; (try with_reducible rfl)
          simp only [Act.put, List.setIfInBounds_toArray, List.set_cons_zero, List.set_cons_succ]
          refine take_ (oi := ?oi24) (i := 5) (N := some 57) (v := ?v24) ?hi24 (by kernel_rfl) (by kernel_rfl) (by kernel_rfl) ?hQ24 ?hN24 (Or.inl ⟨?hw24, ?hy24⟩) hHeld ?rest24
          case hi24 => simp only [List.getElem?_toArray, List.getElem?_cons_zero, List.getElem?_cons_succ]; rfl
          case hQ24 => exact fun _ _ _ h => h
          case hN24 => rfl
          case hw24 => rfl
          case hy24 => intro W hSw; have z0 := pw_cell_below (show Below _ _ W from hSw) q0; have z1 := pw_cell_below (show Below _ _ W from hSw) q1; go_simp; (try with_reducible rfl)
          simp only [Act.put, List.setIfInBounds_toArray, List.set_cons_zero, List.set_cons_succ]
          refine take_ (oi := ?oi25) (i := 6) (N := some 58) (v := ?v25) ?hi25 (by kernel_rfl) (by kernel_rfl) (by kernel_rfl) ?hQ25 ?hN25 (Or.inl ⟨?hw25, ?hy25⟩) hHeld ?rest25
          case hi25 => simp only [List.getElem?_toArray, List.getElem?_cons_zero, List.getElem?_cons_succ]; rfl
          case hQ25 => exact fun _ _ _ h => h
          case hN25 => rfl
          case hw25 => rfl
          case hy25 => intro W hSw; have z0 := pw_cell_below (show Below _ _ W from hSw) q0; have z1 := pw_cell_below (show Below _ _ W from hSw) q1; go_simp; (try with_reducible rfl)
          simp only [Act.put, List.setIfInBounds_toArray, List.set_cons_zero, List.set_cons_succ]
          refine take_ (oi := ?oi26) (i := 7) (N := some 59) (v := ?v26) ?hi26 (by kernel_rfl) (by kernel_rfl) (by kernel_rfl) ?hQ26 ?hN26 (Or.inl ⟨?hw26, ?hy26⟩) hHeld ?rest26
          case hi26 => simp only [List.getElem?_toArray, List.getElem?_cons_zero, List.getElem?_cons_succ]; rfl
          case hQ26 => exact fun _ _ _ h => h
          case hN26 => rfl
          case hw26 => rfl
          case hy26 => intro W hSw; have z0 := pw_cell_below (show Below _ _ W from hSw) q0; have z1 := pw_cell_below (show Below _ _ W from hSw) q1; go_simp; (try with_reducible rfl)
          simp only [Act.put, List.setIfInBounds_toArray, List.set_cons_zero, List.set_cons_succ]
          refine wpAnyH_ready (rs := [8]) (by kernel_rfl) (by simp) ?_
          refine AllReadyH.cons (o := ?oi27) ?hi27 (fun K hK => ?step27) AllReadyH.nil
          case hi27 => simp only [List.getElem?_toArray, List.getElem?_cons_zero, List.getElem?_cons_succ]; rfl
          refine goes_ (N := some 60) Tryd.func19 (by kernel_rfl) rfl #[.slice Ax m cx, .slice Ay m cy] (by rfl) rfl rfl (by (try simp only [List.map_toArray, List.map_cons, List.map_nil]); rfl) ?_
          refine (S1.out _ (below_step HBr.out hHeld)).mono ?_
          rintro e v8 ⟨rfl, hb⟩
          refine ⟨_, rfl, ?_⟩
          refine hK.out _ _ (below_step hHeld hb) (fun hHeld => ?_)
          clear hK K hb
          simp only [Act.put, List.setIfInBounds_toArray, List.set_cons_zero, List.set_cons_succ]
          refine wpAnyH_done (by kernel_rfl) ?_ _
          refine NoPanic.normal ?_
          have HBv : Aside0 (Below w3.heap.size w3 v8) := ⟨below_step HBr.out hHeld⟩
          have r0 := pw_cell_below HBv.out gx
          have r2 := pw_cell_below hHeld q2
          clear hHeld q0 q1 q2 HBr
          generalize v8 = V8 at *
          cases b1
          · go_wp2
            refine wp_region_noPanic ?_
            refine wp_region_held_drew (S := fun W => Below V8.heap.size V8 W) (by kernel_rfl) ?_ (fun hHeld => ?_)
            · exact below_drew (Below.refl _ _)
            refine take_ (oi := ?oi1) (i := 0) (N := some 63) (v := ?v1) ?hi1 (by kernel_rfl) (by kernel_rfl) (by kernel_rfl) ?hQ1 ?hN1 (Or.inl ⟨?hw1, ?hy1⟩) hHeld ?rest1
            case hi1 => simp only [List.getElem?_toArray, List.getElem?_cons_zero, List.getElem?_cons_succ]; rfl
            case hQ1 => exact fun _ _ _ h => h
            case hN1 => rfl
            case hw1 => rfl
            case hy1 => intro W hSw; have z0 := pw_cell_below (show Below _ _ W from hSw) r0; have z1 := pw_cell_below (show Below _ _ W from hSw) r2; go_simp; (try with_reducible rfl)
            simp only [Act.put, List.setIfInBounds_toArray, List.set_cons_zero, List.set_cons_succ]
            refine take_ (oi := ?oi2) (i := 1) (N := some 64) (v := ?v2) ?hi2 (by kernel_rfl) (by kernel_rfl) (by kernel_rfl) ?hQ2 ?hN2 (Or.inl ⟨?hw2, ?hy2⟩) hHeld ?rest2
            case hi2 => simp only [List.getElem?_toArray, List.getElem?_cons_zero, List.getElem?_cons_succ]; rfl
            case hQ2 => exact fun _ _ _ h => h
            case hN2 => rfl
            case hw2 => rfl
            case hy2 => intro W hSw; have z0 := pw_cell_below (show Below _ _ W from hSw) r0; have z1 := pw_cell_below (show Below _ _ W from hSw) r2; go_simp; (try with_reducible rfl)
            simp only [Act.put, List.setIfInBounds_toArray, List.set_cons_zero, List.set_cons_succ]
            refine take_ (oi := ?oi3) (i := 2) (N := some 65) (v := ?v3) ?hi3 (by kernel_rfl) (by kernel_rfl) (by kernel_rfl) ?hQ3 ?hN3 (Or.inl ⟨?hw3, ?hy3⟩) hHeld ?rest3
            case hi3 => simp only [List.getElem?_toArray, List.getElem?_cons_zero, List.getElem?_cons_succ]; rfl
            case hQ3 => exact fun _ _ _ h => h
            case hN3 => rfl
            case hw3 => rfl
            case hy3 => intro W hSw; have z0 := pw_cell_below (show Below _ _ W from hSw) r0; have z1 := pw_cell_below (show Below _ _ W from hSw) r2; go_simp; (try with_reducible rfl)
            simp only [Act.put, List.setIfInBounds_toArray, List.set_cons_zero, List.set_cons_succ]
            refine take_ (oi := ?oi4) (i := 3) (N := some 66) (v := ?v4) ?hi4 (by kernel_rfl) (by kernel_rfl) (by kernel_rfl) ?hQ4 ?hN4 (Or.inl ⟨?hw4, ?hy4⟩) hHeld ?rest4
            case hi4 => simp only [List.getElem?_toArray, List.getElem?_cons_zero, List.getElem?_cons_succ]; rfl
            case hQ4 => exact fun _ _ _ h => h
            case hN4 => rfl
            case hw4 => rfl
            case hy4 => intro W hSw; have z0 := pw_cell_below (show Below _ _ W from hSw) r0; have z1 := pw_cell_below (show Below _ _ W from hSw) r2; go_simp; (try with_reducible rfl)
            simp only [Act.put, List.setIfInBounds_toArray, List.set_cons_zero, List.set_cons_succ]
            refine take_ (oi := ?oi5) (i := 4) (N := some 67) (v := ?v5) ?hi5 (by kernel_rfl) (by kernel_rfl) (by kernel_rfl) ?hQ5 ?hN5 (Or.inl ⟨?hw5, ?hy5⟩) hHeld ?rest5
            case hi5 => simp only [List.getElem?_toArray, List.getElem?_cons_zero, List.getElem?_cons_succ]; rfl
            case hQ5 => exact fun _ _ _ h => h
            case hN5 => rfl
            case hw5 => rfl
            case hy5 => intro W hSw; have z0 := pw_cell_below (show Below _ _ W from hSw) r0; have z1 := pw_cell_below (show Below _ _ W from hSw) r2; go_simp; (try with_reducible rfl)
            simp only [Act.put, List.setIfInBounds_toArray, List.set_cons_zero, List.set_cons_succ]
            refine take_ (oi := ?oi6) (i := 5) (N := some 68) (v := ?v6) ?hi6 (by kernel_rfl) (by kernel_rfl) (by kernel_rfl) ?hQ6 ?hN6 (Or.inl ⟨?hw6, ?hy6⟩) hHeld ?rest6
            case hi6 => simp only [List.getElem?_toArray, List.getElem?_cons_zero, List.getElem?_cons_succ]; rfl
            case hQ6 => exact fun _ _ _ h => h
            case hN6 => rfl
            case hw6 => rfl
            case hy6 => intro W hSw; have z0 := pw_cell_below (show Below _ _ W from hSw) r0; have z1 := pw_cell_below (show Below _ _ W from hSw) r2; go_simp; (try with_reducible rfl)
            simp only [Act.put, List.setIfInBounds_toArray, List.set_cons_zero, List.set_cons_succ]
            refine take_ (oi := ?oi7) (i := 6) (N := some 69) (v := ?v7) ?hi7 (by kernel_rfl) (by kernel_rfl) (by kernel_rfl) ?hQ7 ?hN7 (Or.inl ⟨?hw7, ?hy7⟩) hHeld ?rest7
            case hi7 => simp only [List.getElem?_toArray, List.getElem?_cons_zero, List.getElem?_cons_succ]; rfl
            case hQ7 => exact fun _ _ _ h => h
            case hN7 => rfl
            case hw7 => rfl
            case hy7 => intro W hSw; have z0 := pw_cell_below (show Below _ _ W from hSw) r0; have z1 := pw_cell_below (show Below _ _ W from hSw) r2; go_simp; (try with_reducible rfl)
            simp only [Act.put, List.setIfInBounds_toArray, List.set_cons_zero, List.set_cons_succ]
            refine take_ (oi := ?oi8) (i := 7) (N := some 70) (v := ?v8) ?hi8 (by kernel_rfl) (by kernel_rfl) (by kernel_rfl) ?hQ8 ?hN8 (Or.inl ⟨?hw8, ?hy8⟩) hHeld ?rest8
            case hi8 => simp only [List.getElem?_toArray, List.getElem?_cons_zero, List.getElem?_cons_succ]; rfl
            case hQ8 => exact fun _ _ _ h => h
            case hN8 => rfl
            case hw8 => rfl
            case hy8 => intro W hSw; have z0 := pw_cell_below (show Below _ _ W from hSw) r0; have z1 := pw_cell_below (show Below _ _ W from hSw) r2; go_simp; (try with_reducible rfl)
            simp only [Act.put, List.setIfInBounds_toArray, List.set_cons_zero, List.set_cons_succ]
            refine wpAnyH_ready (rs := [8]) (by kernel_rfl) (by simp) ?_
            refine AllReadyH.cons (o := ?oi9) ?hi9 (fun K hK => ?step9) AllReadyH.nil
            case hi9 => simp only [List.getElem?_toArray, List.getElem?_cons_zero, List.getElem?_cons_succ]; rfl
            refine goes_ (N := some 71) Tryd.func19 (by kernel_rfl) rfl #[.slice Ax m cx, .slice Az m cz] (by rfl) rfl rfl (by (try simp only [List.map_toArray, List.map_cons, List.map_nil]); rfl) ?_
            refine (S2.out _ (below_step HBv.out hHeld)).mono ?_
            rintro e v8 ⟨rfl, hb⟩
            refine ⟨_, rfl, ?_⟩
            refine hK.out _ _ (below_step hHeld hb) (fun hHeld => ?_)
            clear hK K hb
            simp only [Act.put, List.setIfInBounds_toArray, List.set_cons_zero, List.set_cons_succ]
            refine wpAnyH_done (by kernel_rfl) ?_ _
            refine NoPanic.normal ?_
            have HBw : Aside0 (Below w3.heap.size w3 v8) := ⟨below_step HBv.out hHeld⟩
            clear hHeld r0 r2 HBv S1 S2
            cases b2
            · go_wp2
              go_roundw
              case rel => exact ⟨j + 1, n1, n2, by go_num, by go_num, by go_num, by omega, by omega, by omega, ⟨by rw [F1.out, ← E1.out] <;> rfl⟩, ⟨by rw [F2.out, ← E2.out] <;> rfl⟩, HBw⟩
              case measure => simp [intOf]; omega
            · go_wp2
              go_roundw
              case rel => exact ⟨j + 1, n1, n2 + 1, by go_num, by go_num, by go_num, by omega, by omega, by omega, ⟨by rw [F1.out, ← E1.out] <;> rfl⟩, ⟨by rw [F2.out, ← E2.out] <;> rfl⟩, HBw⟩
              case measure => simp [intOf]; omega
          · go_wp2
            refine wp_region_noPanic ?_
            refine wp_region_held_drew (S := fun W => Below V8.heap.size V8 W) (by kernel_rfl) ?_ (fun hHeld => ?_)
            · exact below_drew (Below.refl _ _)
            refine take_ (oi := ?oi10) (i := 0) (N := some 63) (v := ?v10) ?hi10 (by kernel_rfl) (by kernel_rfl) (by kernel_rfl) ?hQ10 ?hN10 (Or.inl ⟨?hw10, ?hy10⟩) hHeld ?rest10
            case hi10 => simp only [List.getElem?_toArray, List.getElem?_cons_zero, List.getElem?_cons_succ]; rfl
            case hQ10 => exact fun _ _ _ h => h
            case hN10 => rfl
            case hw10 => rfl
            case hy10 => intro W hSw; have z0 := pw_cell_below (show Below _ _ W from hSw) r0; have z1 := pw_cell_below (show Below _ _ W from hSw) r2; go_simp; (try with_reducible rfl)
            simp only [Act.put, List.setIfInBounds_toArray, List.set_cons_zero, List.set_cons_succ]
            refine take_ (oi := ?oi11) (i := 1) (N := some 64) (v := ?v11) ?hi11 (by kernel_rfl) (by kernel_rfl) (by kernel_rfl) ?hQ11 ?hN11 (Or.inl ⟨?hw11, ?hy11⟩) hHeld ?rest11
            case hi11 => simp only [List.getElem?_toArray, List.getElem?_cons_zero, List.getElem?_cons_succ]; rfl
            case hQ11 => exact fun _ _ _ h => h
            case hN11 => rfl
            case hw11 => rfl
            case hy11 => intro W hSw; have z0 := pw_cell_below (show Below _ _ W from hSw) r0; have z1 := pw_cell_below (show Below _ _ W from hSw) r2; go_simp; (try with_reducible rfl)
            simp only [Act.put, List.setIfInBounds_toArray, List.set_cons_zero, List.set_cons_succ]
            refine take_ (oi := ?oi12) (i := 2) (N := some 65) (v := ?v12) ?hi12 (by kernel_rfl) (by kernel_rfl) (by kernel_rfl) ?hQ12 ?hN12 (Or.inl ⟨?hw12, ?hy12⟩) hHeld ?rest12
            case hi12 => simp only [List.getElem?_toArray, List.getElem?_cons_zero, List.getElem?_cons_succ]; rfl
            case hQ12 => exact fun _ _ _ h => h
            case hN12 => rfl
            case hw12 => rfl
            case hy12 => intro W hSw; have z0 := pw_cell_below (show Below _ _ W from hSw) r0; have z1 := pw_cell_below (show Below _ _ W from hSw) r2; go_simp; (try with_reducible rfl)
            simp only [Act.put, List.setIfInBounds_toArray, List.set_cons_zero, List.set_cons_succ]
            refine take_ (oi := ?oi13) (i := 3) (N := some 66) (v := ?v13) ?hi13 (by kernel_rfl) (by kernel_rfl) (by kernel_rfl) ?hQ13 ?hN13 (Or.inl ⟨?hw13, ?hy13⟩) hHeld ?rest13
            case hi13 => simp only [List.getElem?_toArray, List.getElem?_cons_zero, List.getElem?_cons_succ]; rfl
            case hQ13 => exact fun _ _ _ h => h
            case hN13 => rfl
            case hw13 => rfl
            case hy13 => intro W hSw; have z0 := pw_cell_below (show Below _ _ W from hSw) r0; have z1 := pw_cell_below (show Below _ _ W from hSw) r2; go_simp; (try with_reducible rfl)
            simp only [Act.put, List.setIfInBounds_toArray, List.set_cons_zero, List.set_cons_succ]
            refine take_ (oi := ?oi14) (i := 4) (N := some 67) (v := ?v14) ?hi14 (by kernel_rfl) (by kernel_rfl) (by kernel_rfl) ?hQ14 ?hN14 (Or.inl ⟨?hw14, ?hy14⟩) hHeld ?rest14
            case hi14 => simp only [List.getElem?_toArray, List.getElem?_cons_zero, List.getElem?_cons_succ]; rfl
            case hQ14 => exact fun _ _ _ h => h
            case hN14 => rfl
            case hw14 => rfl
            case hy14 => intro W hSw; have z0 := pw_cell_below (show Below _ _ W from hSw) r0; have z1 := pw_cell_below (show Below _ _ W from hSw) r2; go_simp; (try with_reducible rfl)
            simp only [Act.put, List.setIfInBounds_toArray, List.set_cons_zero, List.set_cons_succ]
            refine take_ (oi := ?oi15) (i := 5) (N := some 68) (v := ?v15) ?hi15 (by kernel_rfl) (by kernel_rfl) (by kernel_rfl) ?hQ15 ?hN15 (Or.inl ⟨?hw15, ?hy15⟩) hHeld ?rest15
            case hi15 => simp only [List.getElem?_toArray, List.getElem?_cons_zero, List.getElem?_cons_succ]; rfl
            case hQ15 => exact fun _ _ _ h => h
            case hN15 => rfl
            case hw15 => rfl
            case hy15 => intro W hSw; have z0 := pw_cell_below (show Below _ _ W from hSw) r0; have z1 := pw_cell_below (show Below _ _ W from hSw) r2; go_simp; (try with_reducible rfl)
            simp only [Act.put, List.setIfInBounds_toArray, List.set_cons_zero, List.set_cons_succ]
            refine take_ (oi := ?oi16) (i := 6) (N := some 69) (v := ?v16) ?hi16 (by kernel_rfl) (by kernel_rfl) (by kernel_rfl) ?hQ16 ?hN16 (Or.inl ⟨?hw16, ?hy16⟩) hHeld ?rest16
            case hi16 => simp only [List.getElem?_toArray, List.getElem?_cons_zero, List.getElem?_cons_succ]; rfl
            case hQ16 => exact fun _ _ _ h => h
            case hN16 => rfl
            case hw16 => rfl
            case hy16 => intro W hSw; have z0 := pw_cell_below (show Below _ _ W from hSw) r0; have z1 := pw_cell_below (show Below _ _ W from hSw) r2; go_simp; (try with_reducible rfl)
            simp only [Act.put, List.setIfInBounds_toArray, List.set_cons_zero, List.set_cons_succ]
            refine take_ (oi := ?oi17) (i := 7) (N := some 70) (v := ?v17) ?hi17 (by kernel_rfl) (by kernel_rfl) (by kernel_rfl) ?hQ17 ?hN17 (Or.inl ⟨?hw17, ?hy17⟩) hHeld ?rest17
            case hi17 => simp only [List.getElem?_toArray, List.getElem?_cons_zero, List.getElem?_cons_succ]; rfl
            case hQ17 => exact fun _ _ _ h => h
            case hN17 => rfl
            case hw17 => rfl
            case hy17 => intro W hSw; have z0 := pw_cell_below (show Below _ _ W from hSw) r0; have z1 := pw_cell_below (show Below _ _ W from hSw) r2; go_simp; (try with_reducible rfl)
            simp only [Act.put, List.setIfInBounds_toArray, List.set_cons_zero, List.set_cons_succ]
            refine wpAnyH_ready (rs := [8]) (by kernel_rfl) (by simp) ?_
            refine AllReadyH.cons (o := ?oi18) ?hi18 (fun K hK => ?step18) AllReadyH.nil
            case hi18 => simp only [List.getElem?_toArray, List.getElem?_cons_zero, List.getElem?_cons_succ]; rfl
            refine goes_ (N := some 71) Tryd.func19 (by kernel_rfl) rfl #[.slice Ax m cx, .slice Az m cz] (by rfl) rfl rfl (by (try simp only [List.map_toArray, List.map_cons, List.map_nil]); rfl) ?_
            refine (S2.out _ (below_step HBv.out hHeld)).mono ?_
            rintro e v8 ⟨rfl, hb⟩
            refine ⟨_, rfl, ?_⟩
            refine hK.out _ _ (below_step hHeld hb) (fun hHeld => ?_)
            clear hK K hb
            simp only [Act.put, List.setIfInBounds_toArray, List.set_cons_zero, List.set_cons_succ]
            refine wpAnyH_done (by kernel_rfl) ?_ _
            refine NoPanic.normal ?_
            have HBw : Aside0 (Below w3.heap.size w3 v8) := ⟨below_step HBv.out hHeld⟩
            clear hHeld r0 r2 HBv S1 S2
            cases b2
            · go_wp2
              go_roundw
              case rel => exact ⟨j + 1, n1 + 1, n2, by go_num, by go_num, by go_num, by omega, by omega, by omega, ⟨by rw [F1.out, ← E1.out] <;> rfl⟩, ⟨by rw [F2.out, ← E2.out] <;> rfl⟩, HBw⟩
              case measure => simp [intOf]; omega
            · go_wp2
              go_roundw
              case rel => exact ⟨j + 1, n1 + 1, n2 + 1, by go_num, by go_num, by go_num, by omega, by omega, by omega, ⟨by rw [F1.out, ← E1.out] <;> rfl⟩, ⟨by rw [F2.out, ← E2.out] <;> rfl⟩, HBw⟩
              case measure => simp [intOf]; omega
        · obtain rfl : j = N := by omega
          have he : n1 = n2 := by rw [E1.out, E2.out, List.take_of_length_le (by rw [HN.out]; exact Nat.le_refl _), List.take_of_length_le (by rw [HLO.out]; exact Nat.le_refl _)]; exact HCN.out.symm
          subst he
          rcases Nat.eq_zero_or_pos k with rfl | hp
          · go_wp2
            go_roundw
            case rel => exact ⟨1, by go_num, by omega, HBr⟩
            case measure => simp [intOf]; omega
          · obtain ⟨Ap, cp, c, hnx⟩ := HNX.out hp
            have gp := hnx.cell
            have hcs := hnx.sign
            have NX := Aside0.mk hnx
            clear hnx HNX HCN E1 E2
            obtain ⟨i, hik⟩ : ∃ i, k = i + 1 := ⟨k - 1, by omega⟩
            rw [show k - 1 = i by omega] at gp
            have hwi : IntKind.i64.wrap ((k : Int) - 1) = (i : Int) := by simp [IntKind.wrap, IntKind.bits, IntKind.signed]; omega
            have hil : i < j := by omega
            clear hik
            have q0 := pw_cell_below HBr.out gx
            have q1 := pw_cell_below HBr.out gp
            rcases hcs with rfl | rfl
            · go_wp2
              refine wp_region_noPanic ?_
              refine wp_region_held_drew (S := fun W => Below wr.heap.size wr W) (by kernel_rfl) ?_ (fun hHeld => ?_)
              · exact below_drew (Below.refl _ _)
              refine take_ (oi := ?oi76) (i := 0) (N := some 80) (v := ?v76) ?hi76 (by kernel_rfl) (by kernel_rfl) (by kernel_rfl) ?hQ76 ?hN76 (Or.inl ⟨?hw76, ?hy76⟩) hHeld ?rest76
              case hi76 => simp only [List.getElem?_toArray, List.getElem?_cons_zero, List.getElem?_cons_succ]; rfl
              case hQ76 => exact fun _ _ _ h => h
              case hN76 => rfl
              case hw76 => rfl
              case hy76 => intro W hSw; have z0 := pw_cell_below (show Below _ _ W from hSw) q0; have z1 := pw_cell_below (show Below _ _ W from hSw) q1; go_simp; (try with_reducible rfl)
              simp only [Act.put, List.setIfInBounds_toArray, List.set_cons_zero, List.set_cons_succ]
              refine take_ (oi := ?oi77) (i := 1) (N := some 81) (v := ?v77) ?hi77 (by kernel_rfl) (by kernel_rfl) (by kernel_rfl) ?hQ77 ?hN77 (Or.inl ⟨?hw77, ?hy77⟩) hHeld ?rest77
              case hi77 => simp only [List.getElem?_toArray, List.getElem?_cons_zero, List.getElem?_cons_succ]; rfl
              case hQ77 => exact fun _ _ _ h => h
              case hN77 => rfl
              case hw77 => rfl
              case hy77 => intro W hSw; have z0 := pw_cell_below (show Below _ _ W from hSw) q0; have z1 := pw_cell_below (show Below _ _ W from hSw) q1; go_simp; (try with_reducible rfl)
              simp only [Act.put, List.setIfInBounds_toArray, List.set_cons_zero, List.set_cons_succ]
              refine take_ (oi := ?oi78) (i := 2) (N := some 82) (v := ?v78) ?hi78 (by kernel_rfl) (by kernel_rfl) (by kernel_rfl) ?hQ78 ?hN78 (Or.inl ⟨?hw78, ?hy78⟩) hHeld ?rest78
              case hi78 => simp only [List.getElem?_toArray, List.getElem?_cons_zero, List.getElem?_cons_succ]; rfl
              case hQ78 => exact fun _ _ _ h => h
              case hN78 => rfl
              case hw78 => rfl
              case hy78 => intro W hSw; have z0 := pw_cell_below (show Below _ _ W from hSw) q0; have z1 := pw_cell_below (show Below _ _ W from hSw) q1; go_simp; (try with_reducible rfl)
              simp only [Act.put, List.setIfInBounds_toArray, List.set_cons_zero, List.set_cons_succ]
              refine take_ (oi := ?oi79) (i := 3) (N := some 83) (v := ?v79) ?hi79 (by kernel_rfl) (by kernel_rfl) (by kernel_rfl) ?hQ79 ?hN79 (Or.inl ⟨?hw79, ?hy79⟩) hHeld ?rest79
              case hi79 => simp only [List.getElem?_toArray, List.getElem?_cons_zero, List.getElem?_cons_succ]; rfl
              case hQ79 => exact fun _ _ _ h => h
              case hN79 => rfl
              case hw79 => rfl
              case hy79 => intro W hSw; have z0 := pw_cell_below (show Below _ _ W from hSw) q0; have z1 := pw_cell_below (show Below _ _ W from hSw) q1; go_simp; (try with_reducible rfl)
              simp only [Act.put, List.setIfInBounds_toArray, List.set_cons_zero, List.set_cons_succ]
              refine take_ (oi := ?oi80) (i := 4) (N := some 84) (v := ?v80) ?hi80 (by kernel_rfl) (by kernel_rfl) (by kernel_rfl) ?hQ80 ?hN80 (Or.inl ⟨?hw80, ?hy80⟩) hHeld ?rest80
              case hi80 => simp only [List.getElem?_toArray, List.getElem?_cons_zero, List.getElem?_cons_succ]; rfl
              case hQ80 => exact fun _ _ _ h => h
              case hN80 => rfl
              case hw80 => rfl
              case hy80 => intro W hSw; have z0 := pw_cell_below (show Below _ _ W from hSw) q0; have z1 := pw_cell_below (show Below _ _ W from hSw) q1; go_simp; (try with_reducible rfl)
              simp only [Act.put, List.setIfInBounds_toArray, List.set_cons_zero, List.set_cons_succ]
              refine take_ (oi := ?oi81) (i := 5) (N := some 85) (v := ?v81) ?hi81 (by kernel_rfl) (by kernel_rfl) (by kernel_rfl) ?hQ81 ?hN81 (Or.inl ⟨?hw81, ?hy81⟩) hHeld ?rest81
              case hi81 => simp only [List.getElem?_toArray, List.getElem?_cons_zero, List.getElem?_cons_succ]; rfl
              case hQ81 => exact fun _ _ _ h => h
              case hN81 => rfl
              case hw81 => rfl
              case hy81 => intro W hSw; have z0 := pw_cell_below (show Below _ _ W from hSw) q0; have z1 := pw_cell_below (show Below _ _ W from hSw) q1; go_simp; (try with_reducible rfl)
              simp only [Act.put, List.setIfInBounds_toArray, List.set_cons_zero, List.set_cons_succ]
              refine take_ (oi := ?oi82) (i := 6) (N := some 86) (v := ?v82) ?hi82 (by kernel_rfl) (by kernel_rfl) (by kernel_rfl) ?hQ82 ?hN82 (Or.inl ⟨?hw82, ?hy82⟩) hHeld ?rest82
              case hi82 => simp only [List.getElem?_toArray, List.getElem?_cons_zero, List.getElem?_cons_succ]; rfl
              case hQ82 => exact fun _ _ _ h => h
              case hN82 => rfl
              case hw82 => rfl
              case hy82 => intro W hSw; have z0 := pw_cell_below (show Below _ _ W from hSw) q0; have z1 := pw_cell_below (show Below _ _ W from hSw) q1; go_simp; (try with_reducible rfl)
              simp only [Act.put, List.setIfInBounds_toArray, List.set_cons_zero, List.set_cons_succ]
              refine take_ (oi := ?oi83) (i := 7) (N := some 87) (v := ?v83) ?hi83 (by kernel_rfl) (by kernel_rfl) (by kernel_rfl) ?hQ83 ?hN83 (Or.inl ⟨?hw83, ?hy83⟩) hHeld ?rest83
              case hi83 => simp only [List.getElem?_toArray, List.getElem?_cons_zero, List.getElem?_cons_succ]; rfl
              case hQ83 => exact fun _ _ _ h => h
              case hN83 => rfl
              case hw83 => rfl
              case hy83 => intro W hSw; have z0 := pw_cell_below (show Below _ _ W from hSw) q0; have z1 := pw_cell_below (show Below _ _ W from hSw) q1; go_simp; (try with_reducible rfl)
              simp only [Act.put, List.setIfInBounds_toArray, List.set_cons_zero, List.set_cons_succ]
              refine take_ (oi := ?oi84) (i := 8) (N := some 88) (v := ?v84) ?hi84 (by kernel_rfl) (by kernel_rfl) (by kernel_rfl) ?hQ84 ?hN84 (Or.inl ⟨?hw84, ?hy84⟩) hHeld ?rest84
              case hi84 => simp only [List.getElem?_toArray, List.getElem?_cons_zero, List.getElem?_cons_succ]; rfl
              case hQ84 => exact fun _ _ _ h => h
              case hN84 => rfl
              case hw84 => rfl
              case hy84 => intro W hSw; have z0 := pw_cell_below (show Below _ _ W from hSw) q0; have z1 := pw_cell_below (show Below _ _ W from hSw) q1; go_simp; (try with_reducible rfl)
              simp only [Act.put, List.setIfInBounds_toArray, List.set_cons_zero, List.set_cons_succ]
              refine wpAnyH_ready (rs := [9]) (by kernel_rfl) (by simp) ?_
              refine AllReadyH.cons (o := ?oi85) ?hi85 (fun K hK => ?step85) AllReadyH.nil
              case hi85 => simp only [List.getElem?_toArray, List.getElem?_cons_zero, List.getElem?_cons_succ]; rfl
              refine goes_ (N := some 89) Tryd.func20 (by kernel_rfl) rfl #[.slice Ap m cp, .slice Ax m cx] (by rfl) rfl rfl (by (try simp only [List.map_toArray, List.map_cons, List.map_nil]); rfl) ?_
              refine (NX.out.up _ (below_step HBr.out hHeld)).mono ?_
              rintro e v9 ⟨rfl, hb⟩
              refine ⟨_, rfl, ?_⟩
              refine hK.out _ _ (below_step hHeld hb) (fun hHeld => ?_)
              clear hK K hb
              simp only [Act.put, List.setIfInBounds_toArray, List.set_cons_zero, List.set_cons_succ]
              refine take_ (oi := ?oi86) (i := 10) (N := some 79) (v := ?v86) ?hi86 (by kernel_rfl) (by kernel_rfl) (by kernel_rfl) ?hQ86 ?hN86 (Or.inl ⟨?hw86, ?hy86⟩) hHeld ?rest86
              case hi86 => simp only [List.getElem?_toArray, List.getElem?_cons_zero, List.getElem?_cons_succ]; rfl
              case hQ86 => exact fun _ _ _ h => h
              case hN86 => rfl
              case hw86 => rfl
              case hy86 => intro W hSw; have z0 := pw_cell_below (show Below _ _ W from hSw) q0; have z1 := pw_cell_below (show Below _ _ W from hSw) q1; go_simp; (try with_reducible rfl)
              simp only [Act.put, List.setIfInBounds_toArray, List.set_cons_zero, List.set_cons_succ]
              refine take_ (oi := ?oi87) (i := 11) (N := some 90) (v := ?v87) ?hi87 (by kernel_rfl) (by kernel_rfl) (by kernel_rfl) ?hQ87 ?hN87 (Or.inl ⟨?hw87, ?hy87⟩) hHeld ?rest87
              case hi87 => simp only [List.getElem?_toArray, List.getElem?_cons_zero, List.getElem?_cons_succ]; rfl
              case hQ87 => exact fun _ _ _ h => h
              case hN87 => rfl
              case hw87 => rfl
              case hy87 => intro W hSw; have z0 := pw_cell_below (show Below _ _ W from hSw) q0; have z1 := pw_cell_below (show Below _ _ W from hSw) q1; go_simp; (try with_reducible rfl)
              simp only [Act.put, List.setIfInBounds_toArray, List.set_cons_zero, List.set_cons_succ]
              refine take_ (oi := ?oi88) (i := 12) (N := some 91) (v := ?v88) ?hi88 (by kernel_rfl) (by kernel_rfl) (by kernel_rfl) ?hQ88 ?hN88 (Or.inl ⟨?hw88, ?hy88⟩) hHeld ?rest88
              case hi88 => simp only [List.getElem?_toArray, List.getElem?_cons_zero, List.getElem?_cons_succ]; rfl
              case hQ88 => exact fun _ _ _ h => h
              case hN88 => rfl
              case hw88 => rfl
              case hy88 => intro W hSw; have z0 := pw_cell_below (show Below _ _ W from hSw) q0; have z1 := pw_cell_below (show Below _ _ W from hSw) q1; go_simp; (try with_reducible rfl)
              simp only [Act.put, List.setIfInBounds_toArray, List.set_cons_zero, List.set_cons_succ]
              refine take_ (oi := ?oi89) (i := 13) (N := some 13) (v := ?v89) ?hi89 (by kernel_rfl) (by kernel_rfl) (by kernel_rfl) ?hQ89 ?hN89 (Or.inl ⟨?hw89, ?hy89⟩) hHeld ?rest89
              case hi89 => simp only [List.getElem?_toArray, List.getElem?_cons_zero, List.getElem?_cons_succ]; rfl
              case hQ89 => exact fun _ _ _ h => h
              case hN89 => rfl
              case hw89 => rfl
              case hy89 => intro W hSw; have z0 := pw_cell_below (show Below _ _ W from hSw) q0; have z1 := pw_cell_below (show Below _ _ W from hSw) q1; go_simp; (try with_reducible rfl)
              simp only [Act.put, List.setIfInBounds_toArray, List.set_cons_zero, List.set_cons_succ]
              refine take_ (oi := ?oi90) (i := 14) (N := some 14) (v := ?v90) ?hi90 (by kernel_rfl) (by kernel_rfl) (by kernel_rfl) ?hQ90 ?hN90 (Or.inl ⟨?hw90, ?hy90⟩) hHeld ?rest90
              case hi90 => simp only [List.getElem?_toArray, List.getElem?_cons_zero, List.getElem?_cons_succ]; rfl
              case hQ90 => exact fun _ _ _ h => h
              case hN90 => rfl
              case hw90 => rfl
              case hy90 => intro W hSw; have z0 := pw_cell_below (show Below _ _ W from hSw) q0; have z1 := pw_cell_below (show Below _ _ W from hSw) q1; go_simp; (try with_reducible rfl)
              simp only [Act.put, List.setIfInBounds_toArray, List.set_cons_zero, List.set_cons_succ]
              refine wpAnyH_done (by kernel_rfl) ?_ _
              refine NoPanic.normal ?_
              have HB2 : Aside0 (Below w3.heap.size w3 v9) := ⟨below_step HBr.out hHeld⟩
              have p0 := pw_cell_below HB2.out gx
              have p1 := pw_cell_below HB2.out gp
              clear hHeld q0 q1 HBr
              generalize v9 = V1 at *
              go_wp2
              refine wp_region_noPanic ?_
              refine wp_region_held_drew (S := fun W => Below V1.heap.size V1 W) (by kernel_rfl) ?_ (fun hHeld => ?_)
              · exact below_drew (Below.refl _ _)
              refine take_ (oi := ?oi61) (i := 0) (N := some 93) (v := ?v61) ?hi61 (by kernel_rfl) (by kernel_rfl) (by kernel_rfl) ?hQ61 ?hN61 (Or.inl ⟨?hw61, ?hy61⟩) hHeld ?rest61
              case hi61 => simp only [List.getElem?_toArray, List.getElem?_cons_zero, List.getElem?_cons_succ]; rfl
              case hQ61 => exact fun _ _ _ h => h
              case hN61 => rfl
              case hw61 => rfl
              case hy61 => intro W hSw; have z0 := pw_cell_below (show Below _ _ W from hSw) p0; have z1 := pw_cell_below (show Below _ _ W from hSw) p1; go_simp; (try with_reducible rfl)
              simp only [Act.put, List.setIfInBounds_toArray, List.set_cons_zero, List.set_cons_succ]
              refine take_ (oi := ?oi62) (i := 1) (N := some 94) (v := ?v62) ?hi62 (by kernel_rfl) (by kernel_rfl) (by kernel_rfl) ?hQ62 ?hN62 (Or.inl ⟨?hw62, ?hy62⟩) hHeld ?rest62
              case hi62 => simp only [List.getElem?_toArray, List.getElem?_cons_zero, List.getElem?_cons_succ]; rfl
              case hQ62 => exact fun _ _ _ h => h
              case hN62 => rfl
              case hw62 => rfl
              case hy62 => intro W hSw; have z0 := pw_cell_below (show Below _ _ W from hSw) p0; have z1 := pw_cell_below (show Below _ _ W from hSw) p1; go_simp; (try with_reducible rfl)
              simp only [Act.put, List.setIfInBounds_toArray, List.set_cons_zero, List.set_cons_succ]
              refine take_ (oi := ?oi63) (i := 2) (N := some 95) (v := ?v63) ?hi63 (by kernel_rfl) (by kernel_rfl) (by kernel_rfl) ?hQ63 ?hN63 (Or.inl ⟨?hw63, ?hy63⟩) hHeld ?rest63
              case hi63 => simp only [List.getElem?_toArray, List.getElem?_cons_zero, List.getElem?_cons_succ]; rfl
              case hQ63 => exact fun _ _ _ h => h
              case hN63 => rfl
              case hw63 => rfl
              case hy63 => intro W hSw; have z0 := pw_cell_below (show Below _ _ W from hSw) p0; have z1 := pw_cell_below (show Below _ _ W from hSw) p1; go_simp; (try with_reducible rfl)
              simp only [Act.put, List.setIfInBounds_toArray, List.set_cons_zero, List.set_cons_succ]
              refine take_ (oi := ?oi64) (i := 3) (N := some 96) (v := ?v64) ?hi64 (by kernel_rfl) (by kernel_rfl) (by kernel_rfl) ?hQ64 ?hN64 (Or.inl ⟨?hw64, ?hy64⟩) hHeld ?rest64
              case hi64 => simp only [List.getElem?_toArray, List.getElem?_cons_zero, List.getElem?_cons_succ]; rfl
              case hQ64 => exact fun _ _ _ h => h
              case hN64 => rfl
              case hw64 => rfl
              case hy64 => intro W hSw; have z0 := pw_cell_below (show Below _ _ W from hSw) p0; have z1 := pw_cell_below (show Below _ _ W from hSw) p1; go_simp; (try with_reducible rfl)
              simp only [Act.put, List.setIfInBounds_toArray, List.set_cons_zero, List.set_cons_succ]
              refine take_ (oi := ?oi65) (i := 4) (N := some 97) (v := ?v65) ?hi65 (by kernel_rfl) (by kernel_rfl) (by kernel_rfl) ?hQ65 ?hN65 (Or.inl ⟨?hw65, ?hy65⟩) hHeld ?rest65
              case hi65 => simp only [List.getElem?_toArray, List.getElem?_cons_zero, List.getElem?_cons_succ]; rfl
              case hQ65 => exact fun _ _ _ h => h
              case hN65 => rfl
              case hw65 => rfl
              case hy65 => intro W hSw; have z0 := pw_cell_below (show Below _ _ W from hSw) p0; have z1 := pw_cell_below (show Below _ _ W from hSw) p1; go_simp; (try with_reducible rfl)
              simp only [Act.put, List.setIfInBounds_toArray, List.set_cons_zero, List.set_cons_succ]
              refine take_ (oi := ?oi66) (i := 5) (N := some 98) (v := ?v66) ?hi66 (by kernel_rfl) (by kernel_rfl) (by kernel_rfl) ?hQ66 ?hN66 (Or.inl ⟨?hw66, ?hy66⟩) hHeld ?rest66
              case hi66 => simp only [List.getElem?_toArray, List.getElem?_cons_zero, List.getElem?_cons_succ]; rfl
              case hQ66 => exact fun _ _ _ h => h
              case hN66 => rfl
              case hw66 => rfl
              case hy66 => intro W hSw; have z0 := pw_cell_below (show Below _ _ W from hSw) p0; have z1 := pw_cell_below (show Below _ _ W from hSw) p1; go_simp; (try with_reducible rfl)
              simp only [Act.put, List.setIfInBounds_toArray, List.set_cons_zero, List.set_cons_succ]
              refine take_ (oi := ?oi67) (i := 6) (N := some 99) (v := ?v67) ?hi67 (by kernel_rfl) (by kernel_rfl) (by kernel_rfl) ?hQ67 ?hN67 (Or.inl ⟨?hw67, ?hy67⟩) hHeld ?rest67
              case hi67 => simp only [List.getElem?_toArray, List.getElem?_cons_zero, List.getElem?_cons_succ]; rfl
              case hQ67 => exact fun _ _ _ h => h
              case hN67 => rfl
              case hw67 => rfl
              case hy67 => intro W hSw; have z0 := pw_cell_below (show Below _ _ W from hSw) p0; have z1 := pw_cell_below (show Below _ _ W from hSw) p1; go_simp; (try with_reducible rfl)
              simp only [Act.put, List.setIfInBounds_toArray, List.set_cons_zero, List.set_cons_succ]
              refine take_ (oi := ?oi68) (i := 7) (N := some 100) (v := ?v68) ?hi68 (by kernel_rfl) (by kernel_rfl) (by kernel_rfl) ?hQ68 ?hN68 (Or.inl ⟨?hw68, ?hy68⟩) hHeld ?rest68
              case hi68 => simp only [List.getElem?_toArray, List.getElem?_cons_zero, List.getElem?_cons_succ]; rfl
              case hQ68 => exact fun _ _ _ h => h
              case hN68 => rfl
              case hw68 => rfl
              case hy68 => intro W hSw; have z0 := pw_cell_below (show Below _ _ W from hSw) p0; have z1 := pw_cell_below (show Below _ _ W from hSw) p1; go_simp; (try with_reducible rfl)
              simp only [Act.put, List.setIfInBounds_toArray, List.set_cons_zero, List.set_cons_succ]
              refine take_ (oi := ?oi69) (i := 8) (N := some 101) (v := ?v69) ?hi69 (by kernel_rfl) (by kernel_rfl) (by kernel_rfl) ?hQ69 ?hN69 (Or.inl ⟨?hw69, ?hy69⟩) hHeld ?rest69
              case hi69 => simp only [List.getElem?_toArray, List.getElem?_cons_zero, List.getElem?_cons_succ]; rfl
              case hQ69 => exact fun _ _ _ h => h
              case hN69 => rfl
              case hw69 => rfl
              case hy69 => intro W hSw; have z0 := pw_cell_below (show Below _ _ W from hSw) p0; have z1 := pw_cell_below (show Below _ _ W from hSw) p1; go_simp; (try with_reducible rfl)
              simp only [Act.put, List.setIfInBounds_toArray, List.set_cons_zero, List.set_cons_succ]
              refine wpAnyH_ready (rs := [9]) (by kernel_rfl) (by simp) ?_
              refine AllReadyH.cons (o := ?oi70) ?hi70 (fun K hK => ?step70) AllReadyH.nil
              case hi70 => simp only [List.getElem?_toArray, List.getElem?_cons_zero, List.getElem?_cons_succ]; rfl
              refine goes_ (N := some 102) Tryd.func20 (by kernel_rfl) rfl #[.slice Ax m cx, .slice Ap m cp] (by rfl) rfl rfl (by (try simp only [List.map_toArray, List.map_cons, List.map_nil]); rfl) ?_
              refine (NX.out.down _ (below_step HB2.out hHeld)).mono ?_
              rintro e v9 ⟨rfl, hb⟩
              refine ⟨_, rfl, ?_⟩
              refine hK.out _ _ (below_step hHeld hb) (fun hHeld => ?_)
              clear hK K hb
              simp only [Act.put, List.setIfInBounds_toArray, List.set_cons_zero, List.set_cons_succ]
              refine take_ (oi := ?oi71) (i := 10) (N := some 92) (v := ?v71) ?hi71 (by kernel_rfl) (by kernel_rfl) (by kernel_rfl) ?hQ71 ?hN71 (Or.inl ⟨?hw71, ?hy71⟩) hHeld ?rest71
              case hi71 => simp only [List.getElem?_toArray, List.getElem?_cons_zero, List.getElem?_cons_succ]; rfl
              case hQ71 => exact fun _ _ _ h => h
              case hN71 => rfl
              case hw71 => rfl
              case hy71 => intro W hSw; have z0 := pw_cell_below (show Below _ _ W from hSw) p0; have z1 := pw_cell_below (show Below _ _ W from hSw) p1; go_simp; (try with_reducible rfl)
              simp only [Act.put, List.setIfInBounds_toArray, List.set_cons_zero, List.set_cons_succ]
              refine take_ (oi := ?oi72) (i := 11) (N := some 103) (v := ?v72) ?hi72 (by kernel_rfl) (by kernel_rfl) (by kernel_rfl) ?hQ72 ?hN72 (Or.inl ⟨?hw72, ?hy72⟩) hHeld ?rest72
              case hi72 => simp only [List.getElem?_toArray, List.getElem?_cons_zero, List.getElem?_cons_succ]; rfl
              case hQ72 => exact fun _ _ _ h => h
              case hN72 => rfl
              case hw72 => rfl
              case hy72 => intro W hSw; have z0 := pw_cell_below (show Below _ _ W from hSw) p0; have z1 := pw_cell_below (show Below _ _ W from hSw) p1; go_simp; (try with_reducible rfl)
              simp only [Act.put, List.setIfInBounds_toArray, List.set_cons_zero, List.set_cons_succ]
              refine take_ (oi := ?oi73) (i := 12) (N := some 104) (v := ?v73) ?hi73 (by kernel_rfl) (by kernel_rfl) (by kernel_rfl) ?hQ73 ?hN73 (Or.inl ⟨?hw73, ?hy73⟩) hHeld ?rest73
              case hi73 => simp only [List.getElem?_toArray, List.getElem?_cons_zero, List.getElem?_cons_succ]; rfl
              case hQ73 => exact fun _ _ _ h => h
              case hN73 => rfl
              case hw73 => rfl
              case hy73 => intro W hSw; have z0 := pw_cell_below (show Below _ _ W from hSw) p0; have z1 := pw_cell_below (show Below _ _ W from hSw) p1; go_simp; (try with_reducible rfl)
              simp only [Act.put, List.setIfInBounds_toArray, List.set_cons_zero, List.set_cons_succ]
              refine take_ (oi := ?oi74) (i := 13) (N := some 15) (v := ?v74) ?hi74 (by kernel_rfl) (by kernel_rfl) (by kernel_rfl) ?hQ74 ?hN74 (Or.inl ⟨?hw74, ?hy74⟩) hHeld ?rest74
              case hi74 => simp only [List.getElem?_toArray, List.getElem?_cons_zero, List.getElem?_cons_succ]; rfl
              case hQ74 => exact fun _ _ _ h => h
              case hN74 => rfl
              case hw74 => rfl
              case hy74 => intro W hSw; have z0 := pw_cell_below (show Below _ _ W from hSw) p0; have z1 := pw_cell_below (show Below _ _ W from hSw) p1; go_simp; (try with_reducible rfl)
              simp only [Act.put, List.setIfInBounds_toArray, List.set_cons_zero, List.set_cons_succ]
              refine take_ (oi := ?oi75) (i := 14) (N := some 16) (v := ?v75) ?hi75 (by kernel_rfl) (by kernel_rfl) (by kernel_rfl) ?hQ75 ?hN75 (Or.inl ⟨?hw75, ?hy75⟩) hHeld ?rest75
              case hi75 => simp only [List.getElem?_toArray, List.getElem?_cons_zero, List.getElem?_cons_succ]; rfl
              case hQ75 => exact fun _ _ _ h => h
              case hN75 => rfl
              case hw75 => rfl
              case hy75 => intro W hSw; have z0 := pw_cell_below (show Below _ _ W from hSw) p0; have z1 := pw_cell_below (show Below _ _ W from hSw) p1; go_simp; (try with_reducible rfl)
              simp only [Act.put, List.setIfInBounds_toArray, List.set_cons_zero, List.set_cons_succ]
              refine wpAnyH_done (by kernel_rfl) ?_ _
              refine NoPanic.normal ?_
              have HB4 : Aside0 (Below w3.heap.size w3 v9) := ⟨below_step HB2.out hHeld⟩
              have s0 := pw_cell_below HB4.out gx
              have s1 := pw_cell_below HB4.out gp
              clear hHeld p0 p1 HB2
              generalize v9 = V2 at *
              go_wp2
              refine wp_region_noPanic ?_
              refine wp_region_held_drew (S := fun W => Below V2.heap.size V2 W) (by kernel_rfl) ?_ (fun hHeld => ?_)
              · exact below_drew (Below.refl _ _)
              refine take_ (oi := ?oi28) (i := 0) (N := some 105) (v := ?v28) ?hi28 (by kernel_rfl) (by kernel_rfl) (by kernel_rfl) ?hQ28 ?hN28 (Or.inl ⟨?hw28, ?hy28⟩) hHeld ?rest28
              case hi28 => simp only [List.getElem?_toArray, List.getElem?_cons_zero, List.getElem?_cons_succ]; rfl
              case hQ28 => exact fun _ _ _ h => h
              case hN28 => rfl
              case hw28 => rfl
              case hy28 => intro W hSw; have z0 := pw_cell_below (show Below _ _ W from hSw) s0; have z1 := pw_cell_below (show Below _ _ W from hSw) s1; go_simp; (try with_reducible rfl)
              simp only [Act.put, List.setIfInBounds_toArray, List.set_cons_zero, List.set_cons_succ]
              refine take_ (oi := ?oi29) (i := 1) (N := some 106) (v := ?v29) ?hi29 (by kernel_rfl) (by kernel_rfl) (by kernel_rfl) ?hQ29 ?hN29 (Or.inl ⟨?hw29, ?hy29⟩) hHeld ?rest29
              case hi29 => simp only [List.getElem?_toArray, List.getElem?_cons_zero, List.getElem?_cons_succ]; rfl
              case hQ29 => exact fun _ _ _ h => h
              case hN29 => rfl
              case hw29 => rfl
              case hy29 => intro W hSw; have z0 := pw_cell_below (show Below _ _ W from hSw) s0; have z1 := pw_cell_below (show Below _ _ W from hSw) s1; go_simp; (try with_reducible rfl)
              simp only [Act.put, List.setIfInBounds_toArray, List.set_cons_zero, List.set_cons_succ]
              refine take_ (oi := ?oi30) (i := 2) (N := some 107) (v := ?v30) ?hi30 (by kernel_rfl) (by kernel_rfl) (by kernel_rfl) ?hQ30 ?hN30 (Or.inl ⟨?hw30, ?hy30⟩) hHeld ?rest30
              case hi30 => simp only [List.getElem?_toArray, List.getElem?_cons_zero, List.getElem?_cons_succ]; rfl
              case hQ30 => exact fun _ _ _ h => h
              case hN30 => rfl
              case hw30 => rfl
              case hy30 => intro W hSw; have z0 := pw_cell_below (show Below _ _ W from hSw) s0; have z1 := pw_cell_below (show Below _ _ W from hSw) s1; go_simp; (try with_reducible rfl)
              simp only [Act.put, List.setIfInBounds_toArray, List.set_cons_zero, List.set_cons_succ]
              refine take_ (oi := ?oi31) (i := 3) (N := some 108) (v := ?v31) ?hi31 (by kernel_rfl) (by kernel_rfl) (by kernel_rfl) ?hQ31 ?hN31 (Or.inl ⟨?hw31, ?hy31⟩) hHeld ?rest31
              case hi31 => simp only [List.getElem?_toArray, List.getElem?_cons_zero, List.getElem?_cons_succ]; rfl
              case hQ31 => exact fun _ _ _ h => h
              case hN31 => rfl
              case hw31 => rfl
              case hy31 => intro W hSw; have z0 := pw_cell_below (show Below _ _ W from hSw) s0; have z1 := pw_cell_below (show Below _ _ W from hSw) s1; go_simp; (try with_reducible rfl)
              simp only [Act.put, List.setIfInBounds_toArray, List.set_cons_zero, List.set_cons_succ]
              refine take_ (oi := ?oi32) (i := 4) (N := some 109) (v := ?v32) ?hi32 (by kernel_rfl) (by kernel_rfl) (by kernel_rfl) ?hQ32 ?hN32 (Or.inl ⟨?hw32, ?hy32⟩) hHeld ?rest32
              case hi32 => simp only [List.getElem?_toArray, List.getElem?_cons_zero, List.getElem?_cons_succ]; rfl
              case hQ32 => exact fun _ _ _ h => h
              case hN32 => rfl
              case hw32 => rfl
              case hy32 => intro W hSw; have z0 := pw_cell_below (show Below _ _ W from hSw) s0; have z1 := pw_cell_below (show Below _ _ W from hSw) s1; go_simp; (try with_reducible rfl)
              simp only [Act.put, List.setIfInBounds_toArray, List.set_cons_zero, List.set_cons_succ]
              refine take_ (oi := ?oi33) (i := 5) (N := some 110) (v := ?v33) ?hi33 (by kernel_rfl) (by kernel_rfl) (by kernel_rfl) ?hQ33 ?hN33 (Or.inl ⟨?hw33, ?hy33⟩) hHeld ?rest33
              case hi33 => simp only [List.getElem?_toArray, List.getElem?_cons_zero, List.getElem?_cons_succ]; rfl
              case hQ33 => exact fun _ _ _ h => h
              case hN33 => rfl
              case hw33 => rfl
              case hy33 => intro W hSw; have z0 := pw_cell_below (show Below _ _ W from hSw) s0; have z1 := pw_cell_below (show Below _ _ W from hSw) s1; go_simp; (try with_reducible rfl)
              simp only [Act.put, List.setIfInBounds_toArray, List.set_cons_zero, List.set_cons_succ]
              refine take_ (oi := ?oi34) (i := 6) (N := some 111) (v := ?v34) ?hi34 (by kernel_rfl) (by kernel_rfl) (by kernel_rfl) ?hQ34 ?hN34 (Or.inl ⟨?hw34, ?hy34⟩) hHeld ?rest34
              case hi34 => simp only [List.getElem?_toArray, List.getElem?_cons_zero, List.getElem?_cons_succ]; rfl
              case hQ34 => exact fun _ _ _ h => h
              case hN34 => rfl
              case hw34 => rfl
              case hy34 => intro W hSw; have z0 := pw_cell_below (show Below _ _ W from hSw) s0; have z1 := pw_cell_below (show Below _ _ W from hSw) s1; go_simp; (try with_reducible rfl)
              simp only [Act.put, List.setIfInBounds_toArray, List.set_cons_zero, List.set_cons_succ]
              refine take_ (oi := ?oi35) (i := 7) (N := some 112) (v := ?v35) ?hi35 (by kernel_rfl) (by kernel_rfl) (by kernel_rfl) ?hQ35 ?hN35 (Or.inl ⟨?hw35, ?hy35⟩) hHeld ?rest35
              case hi35 => simp only [List.getElem?_toArray, List.getElem?_cons_zero, List.getElem?_cons_succ]; rfl
              case hQ35 => exact fun _ _ _ h => h
              case hN35 => rfl
              case hw35 => rfl
              case hy35 => intro W hSw; have z0 := pw_cell_below (show Below _ _ W from hSw) s0; have z1 := pw_cell_below (show Below _ _ W from hSw) s1; go_simp; (try with_reducible rfl)
              simp only [Act.put, List.setIfInBounds_toArray, List.set_cons_zero, List.set_cons_succ]
              refine take_ (oi := ?oi36) (i := 8) (N := some 113) (v := ?v36) ?hi36 (by kernel_rfl) (by kernel_rfl) (by kernel_rfl) ?hQ36 ?hN36 (Or.inl ⟨?hw36, ?hy36⟩) hHeld ?rest36
              case hi36 => simp only [List.getElem?_toArray, List.getElem?_cons_zero, List.getElem?_cons_succ]; rfl
              case hQ36 => exact fun _ _ _ h => h
              case hN36 => rfl
              case hw36 => rfl
              case hy36 => intro W hSw; have z0 := pw_cell_below (show Below _ _ W from hSw) s0; have z1 := pw_cell_below (show Below _ _ W from hSw) s1; go_simp; (try with_reducible rfl)
              simp only [Act.put, List.setIfInBounds_toArray, List.set_cons_zero, List.set_cons_succ]
              refine take_ (oi := ?oi37) (i := 9) (N := some 114) (v := ?v37) ?hi37 (by kernel_rfl) (by kernel_rfl) (by kernel_rfl) ?hQ37 ?hN37 (Or.inl ⟨?hw37, ?hy37⟩) hHeld ?rest37
              case hi37 => simp only [List.getElem?_toArray, List.getElem?_cons_zero, List.getElem?_cons_succ]; rfl
              case hQ37 => exact fun _ _ _ h => h
              case hN37 => rfl
              case hw37 => rfl
              case hy37 => intro W hSw; have z0 := pw_cell_below (show Below _ _ W from hSw) s0; have z1 := pw_cell_below (show Below _ _ W from hSw) s1; go_simp; (try with_reducible rfl)
              simp only [Act.put, List.setIfInBounds_toArray, List.set_cons_zero, List.set_cons_succ]
              refine take_ (oi := ?oi38) (i := 10) (N := some 115) (v := ?v38) ?hi38 (by kernel_rfl) (by kernel_rfl) (by kernel_rfl) ?hQ38 ?hN38 (Or.inl ⟨?hw38, ?hy38⟩) hHeld ?rest38
              case hi38 => simp only [List.getElem?_toArray, List.getElem?_cons_zero, List.getElem?_cons_succ]; rfl
              case hQ38 => exact fun _ _ _ h => h
              case hN38 => rfl
              case hw38 => rfl
              case hy38 => intro W hSw; have z0 := pw_cell_below (show Below _ _ W from hSw) s0; have z1 := pw_cell_below (show Below _ _ W from hSw) s1; go_simp; (try with_reducible rfl)
              simp only [Act.put, List.setIfInBounds_toArray, List.set_cons_zero, List.set_cons_succ]
              refine take_ (oi := ?oi39) (i := 11) (N := some 116) (v := ?v39) ?hi39 (by kernel_rfl) (by kernel_rfl) (by kernel_rfl) ?hQ39 ?hN39 (Or.inl ⟨?hw39, ?hy39⟩) hHeld ?rest39
              case hi39 => simp only [List.getElem?_toArray, List.getElem?_cons_zero, List.getElem?_cons_succ]; rfl
              case hQ39 => exact fun _ _ _ h => h
              case hN39 => rfl
              case hw39 => rfl
              case hy39 => intro W hSw; have z0 := pw_cell_below (show Below _ _ W from hSw) s0; have z1 := pw_cell_below (show Below _ _ W from hSw) s1; go_simp; (try with_reducible rfl)
              simp only [Act.put, List.setIfInBounds_toArray, List.set_cons_zero, List.set_cons_succ]
              refine take_ (oi := ?oi40) (i := 13) (N := some 118) (v := ?v40) ?hi40 (by kernel_rfl) (by kernel_rfl) (by kernel_rfl) ?hQ40 ?hN40 (Or.inl ⟨?hw40, ?hy40⟩) hHeld ?rest40
              case hi40 => simp only [List.getElem?_toArray, List.getElem?_cons_zero, List.getElem?_cons_succ]; rfl
              case hQ40 => exact fun _ _ _ h => h
              case hN40 => rfl
              case hw40 => rfl
              case hy40 => intro W hSw; have z0 := pw_cell_below (show Below _ _ W from hSw) s0; have z1 := pw_cell_below (show Below _ _ W from hSw) s1; go_simp; (try with_reducible rfl)
              simp only [Act.put, List.setIfInBounds_toArray, List.set_cons_zero, List.set_cons_succ]
              refine wpAnyH_ready (rs := [12]) (by kernel_rfl) (by simp) ?_
              refine AllReadyH.cons (o := ?oi41) ?hi41 (fun K hK => ?step41) AllReadyH.nil
              case hi41 => simp only [List.getElem?_toArray, List.getElem?_cons_zero, List.getElem?_cons_succ]; rfl
              refine goes_ (N := some 117) Tryd.func12 (by kernel_rfl) rfl #[.int .i64 (1)] (by rfl) rfl rfl (by (try simp only [List.map_toArray, List.map_cons, List.map_nil]); rfl) ?_
              refine (sign_ok _ _).mono ?_
              rintro e v12 ⟨rfl, hb⟩
              refine ⟨_, rfl, ?_⟩
              refine hK.out _ _ (below_step hHeld hb) (fun hHeld => ?_)
              clear hK K hb
              simp only [Act.put, List.setIfInBounds_toArray, List.set_cons_zero, List.set_cons_succ]
              refine wpAnyH_ready (rs := [14]) (by kernel_rfl) (by simp) ?_
              refine AllReadyH.cons (o := ?oi42) ?hi42 (fun K hK => ?step42) AllReadyH.nil
              case hi42 => simp only [List.getElem?_toArray, List.getElem?_cons_zero, List.getElem?_cons_succ]; rfl
              refine goes_ (N := some 119) Tryd.func12 (by kernel_rfl) rfl #[.int .i64 (-1)] (by rfl) rfl rfl (by (try simp only [List.map_toArray, List.map_cons, List.map_nil]); rfl) ?_
              refine (sign_ok _ _).mono ?_
              rintro e v14 ⟨rfl, hb⟩
              refine ⟨_, rfl, ?_⟩
              refine hK.out _ _ (below_step hHeld hb) (fun hHeld => ?_)
              clear hK K hb
              simp only [Act.put, List.setIfInBounds_toArray, List.set_cons_zero, List.set_cons_succ]
              refine take_ (oi := ?oi43) (i := 15) (N := some 120) (v := ?v43) ?hi43 (by kernel_rfl) (by kernel_rfl) (by kernel_rfl) ?hQ43 ?hN43 (Or.inl ⟨?hw43, ?hy43⟩) hHeld ?rest43
              case hi43 => simp only [List.getElem?_toArray, List.getElem?_cons_zero, List.getElem?_cons_succ]; rfl
              case hQ43 => exact fun _ _ _ h => h
              case hN43 => rfl
              case hw43 => rfl
              case hy43 => intro W hSw; have z0 := pw_cell_below (show Below _ _ W from hSw) s0; have z1 := pw_cell_below (show Below _ _ W from hSw) s1; go_simp; (try with_reducible rfl)
              simp only [Act.put, List.setIfInBounds_toArray, List.set_cons_zero, List.set_cons_succ]
              refine take_ (oi := ?oi44) (i := 16) (N := some 121) (v := ?v44) ?hi44 (by kernel_rfl) (by kernel_rfl) (by kernel_rfl) ?hQ44 ?hN44 (Or.inl ⟨?hw44, ?hy44⟩) hHeld ?rest44
              case hi44 => simp only [List.getElem?_toArray, List.getElem?_cons_zero, List.getElem?_cons_succ]; rfl
              case hQ44 => exact fun _ _ _ h => h
              case hN44 => rfl
              case hw44 => rfl
              case hy44 => intro W hSw; have z0 := pw_cell_below (show Below _ _ W from hSw) s0; have z1 := pw_cell_below (show Below _ _ W from hSw) s1; go_simp; (try with_reducible rfl)
              simp only [Act.put, List.setIfInBounds_toArray, List.set_cons_zero, List.set_cons_succ]
              refine take_ (oi := ?oi45) (i := 17) (N := some 122) (v := ?v45) ?hi45 (by kernel_rfl) (by kernel_rfl) (by kernel_rfl) ?hQ45 ?hN45 (Or.inl ⟨?hw45, ?hy45⟩) hHeld ?rest45
              case hi45 => simp only [List.getElem?_toArray, List.getElem?_cons_zero, List.getElem?_cons_succ]; rfl
              case hQ45 => exact fun _ _ _ h => h
              case hN45 => rfl
              case hw45 => rfl
              case hy45 => intro W hSw; have z0 := pw_cell_below (show Below _ _ W from hSw) s0; have z1 := pw_cell_below (show Below _ _ W from hSw) s1; go_simp; (try with_reducible rfl)
              simp only [Act.put, List.setIfInBounds_toArray, List.set_cons_zero, List.set_cons_succ]
              refine take_ (oi := ?oi46) (i := 18) (N := some 123) (v := ?v46) ?hi46 (by kernel_rfl) (by kernel_rfl) (by kernel_rfl) ?hQ46 ?hN46 (Or.inl ⟨?hw46, ?hy46⟩) hHeld ?rest46
              case hi46 => simp only [List.getElem?_toArray, List.getElem?_cons_zero, List.getElem?_cons_succ]; rfl
              case hQ46 => exact fun _ _ _ h => h
              case hN46 => rfl
              case hw46 => rfl
              case hy46 => intro W hSw; have z0 := pw_cell_below (show Below _ _ W from hSw) s0; have z1 := pw_cell_below (show Below _ _ W from hSw) s1; go_simp; (try with_reducible rfl)
              simp only [Act.put, List.setIfInBounds_toArray, List.set_cons_zero, List.set_cons_succ]
              refine take_ (oi := ?oi47) (i := 19) (N := some 124) (v := ?v47) ?hi47 (by kernel_rfl) (by kernel_rfl) (by kernel_rfl) ?hQ47 ?hN47 (Or.inl ⟨?hw47, ?hy47⟩) hHeld ?rest47
              case hi47 => simp only [List.getElem?_toArray, List.getElem?_cons_zero, List.getElem?_cons_succ]; rfl
              case hQ47 => exact fun _ _ _ h => h
              case hN47 => rfl
              case hw47 => rfl
              case hy47 => intro W hSw; have z0 := pw_cell_below (show Below _ _ W from hSw) s0; have z1 := pw_cell_below (show Below _ _ W from hSw) s1; go_simp; (try with_reducible rfl)
              simp only [Act.put, List.setIfInBounds_toArray, List.set_cons_zero, List.set_cons_succ]
              refine take_ (oi := ?oi48) (i := 20) (N := some 125) (v := ?v48) ?hi48 (by kernel_rfl) (by kernel_rfl) (by kernel_rfl) ?hQ48 ?hN48 (Or.inl ⟨?hw48, ?hy48⟩) hHeld ?rest48
              case hi48 => simp only [List.getElem?_toArray, List.getElem?_cons_zero, List.getElem?_cons_succ]; rfl
              case hQ48 => exact fun _ _ _ h => h
              case hN48 => rfl
              case hw48 => rfl
              case hy48 => intro W hSw; have z0 := pw_cell_below (show Below _ _ W from hSw) s0; have z1 := pw_cell_below (show Below _ _ W from hSw) s1; go_simp; (try with_reducible rfl)
              simp only [Act.put, List.setIfInBounds_toArray, List.set_cons_zero, List.set_cons_succ]
              refine take_ (oi := ?oi49) (i := 21) (N := some 126) (v := ?v49) ?hi49 (by kernel_rfl) (by kernel_rfl) (by kernel_rfl) ?hQ49 ?hN49 (Or.inl ⟨?hw49, ?hy49⟩) hHeld ?rest49
              case hi49 => simp only [List.getElem?_toArray, List.getElem?_cons_zero, List.getElem?_cons_succ]; rfl
              case hQ49 => exact fun _ _ _ h => h
              case hN49 => rfl
              case hw49 => rfl
              case hy49 => intro W hSw; have z0 := pw_cell_below (show Below _ _ W from hSw) s0; have z1 := pw_cell_below (show Below _ _ W from hSw) s1; go_simp; (try with_reducible rfl)
              simp only [Act.put, List.setIfInBounds_toArray, List.set_cons_zero, List.set_cons_succ]
              refine take_ (oi := ?oi50) (i := 22) (N := some 127) (v := ?v50) ?hi50 (by kernel_rfl) (by kernel_rfl) (by kernel_rfl) ?hQ50 ?hN50 (Or.inl ⟨?hw50, ?hy50⟩) hHeld ?rest50
              case hi50 => simp only [List.getElem?_toArray, List.getElem?_cons_zero, List.getElem?_cons_succ]; rfl
              case hQ50 => exact fun _ _ _ h => h
              case hN50 => rfl
              case hw50 => rfl
              case hy50 => intro W hSw; have z0 := pw_cell_below (show Below _ _ W from hSw) s0; have z1 := pw_cell_below (show Below _ _ W from hSw) s1; go_simp; (try with_reducible rfl)
              simp only [Act.put, List.setIfInBounds_toArray, List.set_cons_zero, List.set_cons_succ]
              refine take_ (oi := ?oi51) (i := 23) (N := some 128) (v := ?v51) ?hi51 (by kernel_rfl) (by kernel_rfl) (by kernel_rfl) ?hQ51 ?hN51 (Or.inl ⟨?hw51, ?hy51⟩) hHeld ?rest51
              case hi51 => simp only [List.getElem?_toArray, List.getElem?_cons_zero, List.getElem?_cons_succ]; rfl
              case hQ51 => exact fun _ _ _ h => h
              case hN51 => rfl
              case hw51 => rfl
              case hy51 => intro W hSw; have z0 := pw_cell_below (show Below _ _ W from hSw) s0; have z1 := pw_cell_below (show Below _ _ W from hSw) s1; go_simp; (try with_reducible rfl)
              simp only [Act.put, List.setIfInBounds_toArray, List.set_cons_zero, List.set_cons_succ]
              refine take_ (oi := ?oi52) (i := 24) (N := some 129) (v := ?v52) ?hi52 (by kernel_rfl) (by kernel_rfl) (by kernel_rfl) ?hQ52 ?hN52 (Or.inl ⟨?hw52, ?hy52⟩) hHeld ?rest52
              case hi52 => simp only [List.getElem?_toArray, List.getElem?_cons_zero, List.getElem?_cons_succ]; rfl
              case hQ52 => exact fun _ _ _ h => h
              case hN52 => rfl
              case hw52 => rfl
              case hy52 => intro W hSw; have z0 := pw_cell_below (show Below _ _ W from hSw) s0; have z1 := pw_cell_below (show Below _ _ W from hSw) s1; go_simp; (try with_reducible rfl)
              simp only [Act.put, List.setIfInBounds_toArray, List.set_cons_zero, List.set_cons_succ]
              refine take_ (oi := ?oi53) (i := 25) (N := some 130) (v := ?v53) ?hi53 (by kernel_rfl) (by kernel_rfl) (by kernel_rfl) ?hQ53 ?hN53 (Or.inl ⟨?hw53, ?hy53⟩) hHeld ?rest53
              case hi53 => simp only [List.getElem?_toArray, List.getElem?_cons_zero, List.getElem?_cons_succ]; rfl
              case hQ53 => exact fun _ _ _ h => h
              case hN53 => rfl
              case hw53 => rfl
              case hy53 => intro W hSw; have z0 := pw_cell_below (show Below _ _ W from hSw) s0; have z1 := pw_cell_below (show Below _ _ W from hSw) s1; go_simp; (try with_reducible rfl)
              simp only [Act.put, List.setIfInBounds_toArray, List.set_cons_zero, List.set_cons_succ]
              refine take_ (oi := ?oi54) (i := 26) (N := some 131) (v := ?v54) ?hi54 (by kernel_rfl) (by kernel_rfl) (by kernel_rfl) ?hQ54 ?hN54 (Or.inl ⟨?hw54, ?hy54⟩) hHeld ?rest54
              case hi54 => simp only [List.getElem?_toArray, List.getElem?_cons_zero, List.getElem?_cons_succ]; rfl
              case hQ54 => exact fun _ _ _ h => h
              case hN54 => rfl
              case hw54 => rfl
              case hy54 => intro W hSw; have z0 := pw_cell_below (show Below _ _ W from hSw) s0; have z1 := pw_cell_below (show Below _ _ W from hSw) s1; go_simp; (try with_reducible rfl)
              simp only [Act.put, List.setIfInBounds_toArray, List.set_cons_zero, List.set_cons_succ]
              refine take_ (oi := ?oi55) (i := 27) (N := some 132) (v := ?v55) ?hi55 (by kernel_rfl) (by kernel_rfl) (by kernel_rfl) ?hQ55 ?hN55 (Or.inl ⟨?hw55, ?hy55⟩) hHeld ?rest55
              case hi55 => simp only [List.getElem?_toArray, List.getElem?_cons_zero, List.getElem?_cons_succ]; rfl
              case hQ55 => exact fun _ _ _ h => h
              case hN55 => rfl
              case hw55 => rfl
              case hy55 => intro W hSw; have z0 := pw_cell_below (show Below _ _ W from hSw) s0; have z1 := pw_cell_below (show Below _ _ W from hSw) s1; go_simp; (try with_reducible rfl)
              simp only [Act.put, List.setIfInBounds_toArray, List.set_cons_zero, List.set_cons_succ]
              refine take_ (oi := ?oi56) (i := 28) (N := some 133) (v := ?v56) ?hi56 (by kernel_rfl) (by kernel_rfl) (by kernel_rfl) ?hQ56 ?hN56 (Or.inl ⟨?hw56, ?hy56⟩) hHeld ?rest56
              case hi56 => simp only [List.getElem?_toArray, List.getElem?_cons_zero, List.getElem?_cons_succ]; rfl
              case hQ56 => exact fun _ _ _ h => h
              case hN56 => rfl
              case hw56 => rfl
              case hy56 => intro W hSw; have z0 := pw_cell_below (show Below _ _ W from hSw) s0; have z1 := pw_cell_below (show Below _ _ W from hSw) s1; go_simp; (try with_reducible rfl)
              simp only [Act.put, List.setIfInBounds_toArray, List.set_cons_zero, List.set_cons_succ]
              refine take_ (oi := ?oi57) (i := 29) (N := some 134) (v := ?v57) ?hi57 (by kernel_rfl) (by kernel_rfl) (by kernel_rfl) ?hQ57 ?hN57 (Or.inl ⟨?hw57, ?hy57⟩) hHeld ?rest57
              case hi57 => simp only [List.getElem?_toArray, List.getElem?_cons_zero, List.getElem?_cons_succ]; rfl
              case hQ57 => exact fun _ _ _ h => h
              case hN57 => rfl
              case hw57 => rfl
              case hy57 => intro W hSw; have z0 := pw_cell_below (show Below _ _ W from hSw) s0; have z1 := pw_cell_below (show Below _ _ W from hSw) s1; go_simp; (try with_reducible rfl)
              simp only [Act.put, List.setIfInBounds_toArray, List.set_cons_zero, List.set_cons_succ]
              refine wpAnyH_ready (rs := [30]) (by kernel_rfl) (by simp) ?_
              refine AllReadyH.cons (o := ?oi58) ?hi58 (fun K hK => ?step58) AllReadyH.nil
              case hi58 => simp only [List.getElem?_toArray, List.getElem?_cons_zero, List.getElem?_cons_succ]; rfl
              refine goes_ (N := some 135) Tryd.func19 (by kernel_rfl) rfl #[.slice Ax m cx, .slice Ap m cp] (by rfl) rfl rfl (by (try simp only [List.map_toArray, List.map_cons, List.map_nil]); rfl) ?_
              refine (NX.out.same _ (below_step HB4.out hHeld)).mono ?_
              rintro e v30 ⟨rfl, hb⟩
              refine ⟨_, rfl, ?_⟩
              refine hK.out _ _ (below_step hHeld hb) (fun hHeld => ?_)
              clear hK K hb
              simp only [Act.put, List.setIfInBounds_toArray, List.set_cons_zero, List.set_cons_succ]
              refine take_ (oi := ?oi59) (i := 31) (N := some 136) (v := ?v59) ?hi59 (by kernel_rfl) (by kernel_rfl) (by kernel_rfl) ?hQ59 ?hN59 (Or.inl ⟨?hw59, ?hy59⟩) hHeld ?rest59
              case hi59 => simp only [List.getElem?_toArray, List.getElem?_cons_zero, List.getElem?_cons_succ]; rfl
              case hQ59 => exact fun _ _ _ h => h
              case hN59 => rfl
              case hw59 => rfl
              case hy59 => intro W hSw; have z0 := pw_cell_below (show Below _ _ W from hSw) s0; have z1 := pw_cell_below (show Below _ _ W from hSw) s1; go_simp; (try with_reducible rfl)
              simp only [Act.put, List.setIfInBounds_toArray, List.set_cons_zero, List.set_cons_succ]
              refine take_ (oi := ?oi60) (i := 32) (N := some 137) (v := ?v60) ?hi60 (by kernel_rfl) (by kernel_rfl) (by kernel_rfl) ?hQ60 ?hN60 (Or.inl ⟨?hw60, ?hy60⟩) hHeld ?rest60
              case hi60 => simp only [List.getElem?_toArray, List.getElem?_cons_zero, List.getElem?_cons_succ]; rfl
              case hQ60 => exact fun _ _ _ h => h
              case hN60 => rfl
              case hw60 => rfl
              case hy60 => intro W hSw; have z0 := pw_cell_below (show Below _ _ W from hSw) s0; have z1 := pw_cell_below (show Below _ _ W from hSw) s1; go_simp; (try with_reducible rfl)
              simp only [Act.put, List.setIfInBounds_toArray, List.set_cons_zero, List.set_cons_succ]
              refine wpAnyH_done (by kernel_rfl) ?_ _
              refine NoPanic.normal ?_
              have HB5 : Aside0 (Below w3.heap.size w3 v30) := ⟨below_step HB4.out hHeld⟩
              clear hHeld s0 s1 HB4
              go_wp2
              go_roundw
              case rel => exact ⟨k + 1, by go_num, by omega, HB5⟩
              case measure => simp [intOf]; omega
            · go_wp2
              refine wp_region_noPanic ?_
              refine wp_region_held_drew (S := fun W => Below wr.heap.size wr W) (by kernel_rfl) ?_ (fun hHeld => ?_)
              · exact below_drew (Below.refl _ _)
              refine take_ (oi := ?oi139) (i := 0) (N := some 80) (v := ?v139) ?hi139 (by kernel_rfl) (by kernel_rfl) (by kernel_rfl) ?hQ139 ?hN139 (Or.inl ⟨?hw139, ?hy139⟩) hHeld ?rest139
              case hi139 => simp only [List.getElem?_toArray, List.getElem?_cons_zero, List.getElem?_cons_succ]; rfl
              case hQ139 => exact fun _ _ _ h => h
              case hN139 => rfl
              case hw139 => rfl
              case hy139 => intro W hSw; have z0 := pw_cell_below (show Below _ _ W from hSw) q0; have z1 := pw_cell_below (show Below _ _ W from hSw) q1; go_simp; (try with_reducible rfl)
              simp only [Act.put, List.setIfInBounds_toArray, List.set_cons_zero, List.set_cons_succ]
              refine take_ (oi := ?oi140) (i := 1) (N := some 81) (v := ?v140) ?hi140 (by kernel_rfl) (by kernel_rfl) (by kernel_rfl) ?hQ140 ?hN140 (Or.inl ⟨?hw140, ?hy140⟩) hHeld ?rest140
              case hi140 => simp only [List.getElem?_toArray, List.getElem?_cons_zero, List.getElem?_cons_succ]; rfl
              case hQ140 => exact fun _ _ _ h => h
              case hN140 => rfl
              case hw140 => rfl
              case hy140 => intro W hSw; have z0 := pw_cell_below (show Below _ _ W from hSw) q0; have z1 := pw_cell_below (show Below _ _ W from hSw) q1; go_simp; (try with_reducible rfl)
              simp only [Act.put, List.setIfInBounds_toArray, List.set_cons_zero, List.set_cons_succ]
              refine take_ (oi := ?oi141) (i := 2) (N := some 82) (v := ?v141) ?hi141 (by kernel_rfl) (by kernel_rfl) (by kernel_rfl) ?hQ141 ?hN141 (Or.inl ⟨?hw141, ?hy141⟩) hHeld ?rest141
              case hi141 => simp only [List.getElem?_toArray, List.getElem?_cons_zero, List.getElem?_cons_succ]; rfl
              case hQ141 => exact fun _ _ _ h => h
              case hN141 => rfl
              case hw141 => rfl
              case hy141 => intro W hSw; have z0 := pw_cell_below (show Below _ _ W from hSw) q0; have z1 := pw_cell_below (show Below _ _ W from hSw) q1; go_simp; (try with_reducible rfl)
              simp only [Act.put, List.setIfInBounds_toArray, List.set_cons_zero, List.set_cons_succ]
              refine take_ (oi := ?oi142) (i := 3) (N := some 83) (v := ?v142) ?hi142 (by kernel_rfl) (by kernel_rfl) (by kernel_rfl) ?hQ142 ?hN142 (Or.inl ⟨?hw142, ?hy142⟩) hHeld ?rest142
              case hi142 => simp only [List.getElem?_toArray, List.getElem?_cons_zero, List.getElem?_cons_succ]; rfl
              case hQ142 => exact fun _ _ _ h => h
              case hN142 => rfl
              case hw142 => rfl
              case hy142 => intro W hSw; have z0 := pw_cell_below (show Below _ _ W from hSw) q0; have z1 := pw_cell_below (show Below _ _ W from hSw) q1; go_simp; (try with_reducible rfl)
              simp only [Act.put, List.setIfInBounds_toArray, List.set_cons_zero, List.set_cons_succ]
              refine take_ (oi := ?oi143) (i := 4) (N := some 84) (v := ?v143) ?hi143 (by kernel_rfl) (by kernel_rfl) (by kernel_rfl) ?hQ143 ?hN143 (Or.inl ⟨?hw143, ?hy143⟩) hHeld ?rest143
              case hi143 => simp only [List.getElem?_toArray, List.getElem?_cons_zero, List.getElem?_cons_succ]; rfl
              case hQ143 => exact fun _ _ _ h => h
              case hN143 => rfl
              case hw143 => rfl
              case hy143 => intro W hSw; have z0 := pw_cell_below (show Below _ _ W from hSw) q0; have z1 := pw_cell_below (show Below _ _ W from hSw) q1; go_simp; (try with_reducible rfl)
              simp only [Act.put, List.setIfInBounds_toArray, List.set_cons_zero, List.set_cons_succ]
              refine take_ (oi := ?oi144) (i := 5) (N := some 85) (v := ?v144) ?hi144 (by kernel_rfl) (by kernel_rfl) (by kernel_rfl) ?hQ144 ?hN144 (Or.inl ⟨?hw144, ?hy144⟩) hHeld ?rest144
              case hi144 => simp only [List.getElem?_toArray, List.getElem?_cons_zero, List.getElem?_cons_succ]; rfl
              case hQ144 => exact fun _ _ _ h => h
              case hN144 => rfl
              case hw144 => rfl
              case hy144 => intro W hSw; have z0 := pw_cell_below (show Below _ _ W from hSw) q0; have z1 := pw_cell_below (show Below _ _ W from hSw) q1; go_simp; (try with_reducible rfl)
              simp only [Act.put, List.setIfInBounds_toArray, List.set_cons_zero, List.set_cons_succ]
              refine take_ (oi := ?oi145) (i := 6) (N := some 86) (v := ?v145) ?hi145 (by kernel_rfl) (by kernel_rfl) (by kernel_rfl) ?hQ145 ?hN145 (Or.inl ⟨?hw145, ?hy145⟩) hHeld ?rest145
              case hi145 => simp only [List.getElem?_toArray, List.getElem?_cons_zero, List.getElem?_cons_succ]; rfl
              case hQ145 => exact fun _ _ _ h => h
              case hN145 => rfl
              case hw145 => rfl
              case hy145 => intro W hSw; have z0 := pw_cell_below (show Below _ _ W from hSw) q0; have z1 := pw_cell_below (show Below _ _ W from hSw) q1; go_simp; (try with_reducible rfl)
              simp only [Act.put, List.setIfInBounds_toArray, List.set_cons_zero, List.set_cons_succ]
              refine take_ (oi := ?oi146) (i := 7) (N := some 87) (v := ?v146) ?hi146 (by kernel_rfl) (by kernel_rfl) (by kernel_rfl) ?hQ146 ?hN146 (Or.inl ⟨?hw146, ?hy146⟩) hHeld ?rest146
              case hi146 => simp only [List.getElem?_toArray, List.getElem?_cons_zero, List.getElem?_cons_succ]; rfl
              case hQ146 => exact fun _ _ _ h => h
              case hN146 => rfl
              case hw146 => rfl
              case hy146 => intro W hSw; have z0 := pw_cell_below (show Below _ _ W from hSw) q0; have z1 := pw_cell_below (show Below _ _ W from hSw) q1; go_simp; (try with_reducible rfl)
              simp only [Act.put, List.setIfInBounds_toArray, List.set_cons_zero, List.set_cons_succ]
              refine take_ (oi := ?oi147) (i := 8) (N := some 88) (v := ?v147) ?hi147 (by kernel_rfl) (by kernel_rfl) (by kernel_rfl) ?hQ147 ?hN147 (Or.inl ⟨?hw147, ?hy147⟩) hHeld ?rest147
              case hi147 => simp only [List.getElem?_toArray, List.getElem?_cons_zero, List.getElem?_cons_succ]; rfl
              case hQ147 => exact fun _ _ _ h => h
              case hN147 => rfl
              case hw147 => rfl
              case hy147 => intro W hSw; have z0 := pw_cell_below (show Below _ _ W from hSw) q0; have z1 := pw_cell_below (show Below _ _ W from hSw) q1; go_simp; (try with_reducible rfl)
              simp only [Act.put, List.setIfInBounds_toArray, List.set_cons_zero, List.set_cons_succ]
              refine wpAnyH_ready (rs := [9]) (by kernel_rfl) (by simp) ?_
              refine AllReadyH.cons (o := ?oi148) ?hi148 (fun K hK => ?step148) AllReadyH.nil
              case hi148 => simp only [List.getElem?_toArray, List.getElem?_cons_zero, List.getElem?_cons_succ]; rfl
              refine goes_ (N := some 89) Tryd.func20 (by kernel_rfl) rfl #[.slice Ap m cp, .slice Ax m cx] (by rfl) rfl rfl (by (try simp only [List.map_toArray, List.map_cons, List.map_nil]); rfl) ?_
              refine (NX.out.up _ (below_step HBr.out hHeld)).mono ?_
              rintro e v9 ⟨rfl, hb⟩
              refine ⟨_, rfl, ?_⟩
              refine hK.out _ _ (below_step hHeld hb) (fun hHeld => ?_)
              clear hK K hb
              simp only [Act.put, List.setIfInBounds_toArray, List.set_cons_zero, List.set_cons_succ]
              refine take_ (oi := ?oi149) (i := 10) (N := some 79) (v := ?v149) ?hi149 (by kernel_rfl) (by kernel_rfl) (by kernel_rfl) ?hQ149 ?hN149 (Or.inl ⟨?hw149, ?hy149⟩) hHeld ?rest149
              case hi149 => simp only [List.getElem?_toArray, List.getElem?_cons_zero, List.getElem?_cons_succ]; rfl
              case hQ149 => exact fun _ _ _ h => h
              case hN149 => rfl
              case hw149 => rfl
              case hy149 => intro W hSw; have z0 := pw_cell_below (show Below _ _ W from hSw) q0; have z1 := pw_cell_below (show Below _ _ W from hSw) q1; go_simp; (try with_reducible rfl)
              simp only [Act.put, List.setIfInBounds_toArray, List.set_cons_zero, List.set_cons_succ]
              refine take_ (oi := ?oi150) (i := 11) (N := some 90) (v := ?v150) ?hi150 (by kernel_rfl) (by kernel_rfl) (by kernel_rfl) ?hQ150 ?hN150 (Or.inl ⟨?hw150, ?hy150⟩) hHeld ?rest150
              case hi150 => simp only [List.getElem?_toArray, List.getElem?_cons_zero, List.getElem?_cons_succ]; rfl
              case hQ150 => exact fun _ _ _ h => h
              case hN150 => rfl
              case hw150 => rfl
              case hy150 => intro W hSw; have z0 := pw_cell_below (show Below _ _ W from hSw) q0; have z1 := pw_cell_below (show Below _ _ W from hSw) q1; go_simp; (try with_reducible rfl)
              simp only [Act.put, List.setIfInBounds_toArray, List.set_cons_zero, List.set_cons_succ]
              refine take_ (oi := ?oi151) (i := 12) (N := some 91) (v := ?v151) ?hi151 (by kernel_rfl) (by kernel_rfl) (by kernel_rfl) ?hQ151 ?hN151 (Or.inl ⟨?hw151, ?hy151⟩) hHeld ?rest151
              case hi151 => simp only [List.getElem?_toArray, List.getElem?_cons_zero, List.getElem?_cons_succ]; rfl
              case hQ151 => exact fun _ _ _ h => h
              case hN151 => rfl
              case hw151 => rfl
              case hy151 => intro W hSw; have z0 := pw_cell_below (show Below _ _ W from hSw) q0; have z1 := pw_cell_below (show Below _ _ W from hSw) q1; go_simp; (try with_reducible rfl)
              simp only [Act.put, List.setIfInBounds_toArray, List.set_cons_zero, List.set_cons_succ]
              refine take_ (oi := ?oi152) (i := 13) (N := some 13) (v := ?v152) ?hi152 (by kernel_rfl) (by kernel_rfl) (by kernel_rfl) ?hQ152 ?hN152 (Or.inl ⟨?hw152, ?hy152⟩) hHeld ?rest152
              case hi152 => simp only [List.getElem?_toArray, List.getElem?_cons_zero, List.getElem?_cons_succ]; rfl
              case hQ152 => exact fun _ _ _ h => h
              case hN152 => rfl
              case hw152 => rfl
              case hy152 => intro W hSw; have z0 := pw_cell_below (show Below _ _ W from hSw) q0; have z1 := pw_cell_below (show Below _ _ W from hSw) q1; go_simp; (try with_reducible rfl)
              simp only [Act.put, List.setIfInBounds_toArray, List.set_cons_zero, List.set_cons_succ]
              refine take_ (oi := ?oi153) (i := 14) (N := some 14) (v := ?v153) ?hi153 (by kernel_rfl) (by kernel_rfl) (by kernel_rfl) ?hQ153 ?hN153 (Or.inl ⟨?hw153, ?hy153⟩) hHeld ?rest153
              case hi153 => simp only [List.getElem?_toArray, List.getElem?_cons_zero, List.getElem?_cons_succ]; rfl
              case hQ153 => exact fun _ _ _ h => h
              case hN153 => rfl
              case hw153 => rfl
              case hy153 => intro W hSw; have z0 := pw_cell_below (show Below _ _ W from hSw) q0; have z1 := pw_cell_below (show Below _ _ W from hSw) q1; go_simp; (try with_reducible rfl)
              simp only [Act.put, List.setIfInBounds_toArray, List.set_cons_zero, List.set_cons_succ]
              refine wpAnyH_done (by kernel_rfl) ?_ _
              refine NoPanic.normal ?_
              have HB2 : Aside0 (Below w3.heap.size w3 v9) := ⟨below_step HBr.out hHeld⟩
              have p0 := pw_cell_below HB2.out gx
              have p1 := pw_cell_below HB2.out gp
              clear hHeld q0 q1 HBr
              generalize v9 = V1 at *
              go_wp2
              refine wp_region_noPanic ?_
              refine wp_region_held_drew (S := fun W => Below V1.heap.size V1 W) (by kernel_rfl) ?_ (fun hHeld => ?_)
              · exact below_drew (Below.refl _ _)
              refine take_ (oi := ?oi124) (i := 0) (N := some 93) (v := ?v124) ?hi124 (by kernel_rfl) (by kernel_rfl) (by kernel_rfl) ?hQ124 ?hN124 (Or.inl ⟨?hw124, ?hy124⟩) hHeld ?rest124
              case hi124 => simp only [List.getElem?_toArray, List.getElem?_cons_zero, List.getElem?_cons_succ]; rfl
              case hQ124 => exact fun _ _ _ h => h
              case hN124 => rfl
              case hw124 => rfl
              case hy124 => intro W hSw; have z0 := pw_cell_below (show Below _ _ W from hSw) p0; have z1 := pw_cell_below (show Below _ _ W from hSw) p1; go_simp; (try with_reducible rfl)
              simp only [Act.put, List.setIfInBounds_toArray, List.set_cons_zero, List.set_cons_succ]
              refine take_ (oi := ?oi125) (i := 1) (N := some 94) (v := ?v125) ?hi125 (by kernel_rfl) (by kernel_rfl) (by kernel_rfl) ?hQ125 ?hN125 (Or.inl ⟨?hw125, ?hy125⟩) hHeld ?rest125
              case hi125 => simp only [List.getElem?_toArray, List.getElem?_cons_zero, List.getElem?_cons_succ]; rfl
              case hQ125 => exact fun _ _ _ h => h
              case hN125 => rfl
              case hw125 => rfl
              case hy125 => intro W hSw; have z0 := pw_cell_below (show Below _ _ W from hSw) p0; have z1 := pw_cell_below (show Below _ _ W from hSw) p1; go_simp; (try with_reducible rfl)
              simp only [Act.put, List.setIfInBounds_toArray, List.set_cons_zero, List.set_cons_succ]
              refine take_ (oi := ?oi126) (i := 2) (N := some 95) (v := ?v126) ?hi126 (by kernel_rfl) (by kernel_rfl) (by kernel_rfl) ?hQ126 ?hN126 (Or.inl ⟨?hw126, ?hy126⟩) hHeld ?rest126
              case hi126 => simp only [List.getElem?_toArray, List.getElem?_cons_zero, List.getElem?_cons_succ]; rfl
              case hQ126 => exact fun _ _ _ h => h
              case hN126 => rfl
              case hw126 => rfl
              case hy126 => intro W hSw; have z0 := pw_cell_below (show Below _ _ W from hSw) p0; have z1 := pw_cell_below (show Below _ _ W from hSw) p1; go_simp; (try with_reducible rfl)
              simp only [Act.put, List.setIfInBounds_toArray, List.set_cons_zero, List.set_cons_succ]
              refine take_ (oi := ?oi127) (i := 3) (N := some 96) (v := ?v127) ?hi127 (by kernel_rfl) (by kernel_rfl) (by kernel_rfl) ?hQ127 ?hN127 (Or.inl ⟨?hw127, ?hy127⟩) hHeld ?rest127
              case hi127 => simp only [List.getElem?_toArray, List.getElem?_cons_zero, List.getElem?_cons_succ]; rfl
              case hQ127 => exact fun _ _ _ h => h
              case hN127 => rfl
              case hw127 => rfl
              case hy127 => intro W hSw; have z0 := pw_cell_below (show Below _ _ W from hSw) p0; have z1 := pw_cell_below (show Below _ _ W from hSw) p1; go_simp; (try with_reducible rfl)
              simp only [Act.put, List.setIfInBounds_toArray, List.set_cons_zero, List.set_cons_succ]
              refine take_ (oi := ?oi128) (i := 4) (N := some 97) (v := ?v128) ?hi128 (by kernel_rfl) (by kernel_rfl) (by kernel_rfl) ?hQ128 ?hN128 (Or.inl ⟨?hw128, ?hy128⟩) hHeld ?rest128
              case hi128 => simp only [List.getElem?_toArray, List.getElem?_cons_zero, List.getElem?_cons_succ]; rfl
              case hQ128 => exact fun _ _ _ h => h
              case hN128 => rfl
              case hw128 => rfl
              case hy128 => intro W hSw; have z0 := pw_cell_below (show Below _ _ W from hSw) p0; have z1 := pw_cell_below (show Below _ _ W from hSw) p1; go_simp; (try with_reducible rfl)
              simp only [Act.put, List.setIfInBounds_toArray, List.set_cons_zero, List.set_cons_succ]
              refine take_ (oi := ?oi129) (i := 5) (N := some 98) (v := ?v129) ?hi129 (by kernel_rfl) (by kernel_rfl) (by kernel_rfl) ?hQ129 ?hN129 (Or.inl ⟨?hw129, ?hy129⟩) hHeld ?rest129
              case hi129 => simp only [List.getElem?_toArray, List.getElem?_cons_zero, List.getElem?_cons_succ]; rfl
              case hQ129 => exact fun _ _ _ h => h
              case hN129 => rfl
              case hw129 => rfl
              case hy129 => intro W hSw; have z0 := pw_cell_below (show Below _ _ W from hSw) p0; have z1 := pw_cell_below (show Below _ _ W from hSw) p1; go_simp; (try with_reducible rfl)
              simp only [Act.put, List.setIfInBounds_toArray, List.set_cons_zero, List.set_cons_succ]
              refine take_ (oi := ?oi130) (i := 6) (N := some 99) (v := ?v130) ?hi130 (by kernel_rfl) (by kernel_rfl) (by kernel_rfl) ?hQ130 ?hN130 (Or.inl ⟨?hw130, ?hy130⟩) hHeld ?rest130
              case hi130 => simp only [List.getElem?_toArray, List.getElem?_cons_zero, List.getElem?_cons_succ]; rfl
              case hQ130 => exact fun _ _ _ h => h
              case hN130 => rfl
              case hw130 => rfl
              case hy130 => intro W hSw; have z0 := pw_cell_below (show Below _ _ W from hSw) p0; have z1 := pw_cell_below (show Below _ _ W from hSw) p1; go_simp; (try with_reducible rfl)
              simp only [Act.put, List.setIfInBounds_toArray, List.set_cons_zero, List.set_cons_succ]
              refine take_ (oi := ?oi131) (i := 7) (N := some 100) (v := ?v131) ?hi131 (by kernel_rfl) (by kernel_rfl) (by kernel_rfl) ?hQ131 ?hN131 (Or.inl ⟨?hw131, ?hy131⟩) hHeld ?rest131
              case hi131 => simp only [List.getElem?_toArray, List.getElem?_cons_zero, List.getElem?_cons_succ]; rfl
              case hQ131 => exact fun _ _ _ h => h
              case hN131 => rfl
              case hw131 => rfl
              case hy131 => intro W hSw; have z0 := pw_cell_below (show Below _ _ W from hSw) p0; have z1 := pw_cell_below (show Below _ _ W from hSw) p1; go_simp; (try with_reducible rfl)
              simp only [Act.put, List.setIfInBounds_toArray, List.set_cons_zero, List.set_cons_succ]
              refine take_ (oi := ?oi132) (i := 8) (N := some 101) (v := ?v132) ?hi132 (by kernel_rfl) (by kernel_rfl) (by kernel_rfl) ?hQ132 ?hN132 (Or.inl ⟨?hw132, ?hy132⟩) hHeld ?rest132
              case hi132 => simp only [List.getElem?_toArray, List.getElem?_cons_zero, List.getElem?_cons_succ]; rfl
              case hQ132 => exact fun _ _ _ h => h
              case hN132 => rfl
              case hw132 => rfl
              case hy132 => intro W hSw; have z0 := pw_cell_below (show Below _ _ W from hSw) p0; have z1 := pw_cell_below (show Below _ _ W from hSw) p1; go_simp; (try with_reducible rfl)
              simp only [Act.put, List.setIfInBounds_toArray, List.set_cons_zero, List.set_cons_succ]
              refine wpAnyH_ready (rs := [9]) (by kernel_rfl) (by simp) ?_
              refine AllReadyH.cons (o := ?oi133) ?hi133 (fun K hK => ?step133) AllReadyH.nil
              case hi133 => simp only [List.getElem?_toArray, List.getElem?_cons_zero, List.getElem?_cons_succ]; rfl
              refine goes_ (N := some 102) Tryd.func20 (by kernel_rfl) rfl #[.slice Ax m cx, .slice Ap m cp] (by rfl) rfl rfl (by (try simp only [List.map_toArray, List.map_cons, List.map_nil]); rfl) ?_
              refine (NX.out.down _ (below_step HB2.out hHeld)).mono ?_
              rintro e v9 ⟨rfl, hb⟩
              refine ⟨_, rfl, ?_⟩
              refine hK.out _ _ (below_step hHeld hb) (fun hHeld => ?_)
              clear hK K hb
              simp only [Act.put, List.setIfInBounds_toArray, List.set_cons_zero, List.set_cons_succ]
              refine take_ (oi := ?oi134) (i := 10) (N := some 92) (v := ?v134) ?hi134 (by kernel_rfl) (by kernel_rfl) (by kernel_rfl) ?hQ134 ?hN134 (Or.inl ⟨?hw134, ?hy134⟩) hHeld ?rest134
              case hi134 => simp only [List.getElem?_toArray, List.getElem?_cons_zero, List.getElem?_cons_succ]; rfl
              case hQ134 => exact fun _ _ _ h => h
              case hN134 => rfl
              case hw134 => rfl
              case hy134 => intro W hSw; have z0 := pw_cell_below (show Below _ _ W from hSw) p0; have z1 := pw_cell_below (show Below _ _ W from hSw) p1; go_simp; (try with_reducible rfl)
              simp only [Act.put, List.setIfInBounds_toArray, List.set_cons_zero, List.set_cons_succ]
              refine take_ (oi := ?oi135) (i := 11) (N := some 103) (v := ?v135) ?hi135 (by kernel_rfl) (by kernel_rfl) (by kernel_rfl) ?hQ135 ?hN135 (Or.inl ⟨?hw135, ?hy135⟩) hHeld ?rest135
              case hi135 => simp only [List.getElem?_toArray, List.getElem?_cons_zero, List.getElem?_cons_succ]; rfl
              case hQ135 => exact fun _ _ _ h => h
              case hN135 => rfl
              case hw135 => rfl
              case hy135 => intro W hSw; have z0 := pw_cell_below (show Below _ _ W from hSw) p0; have z1 := pw_cell_below (show Below _ _ W from hSw) p1; go_simp; (try with_reducible rfl)
              simp only [Act.put, List.setIfInBounds_toArray, List.set_cons_zero, List.set_cons_succ]
              refine take_ (oi := ?oi136) (i := 12) (N := some 104) (v := ?v136) ?hi136 (by kernel_rfl) (by kernel_rfl) (by kernel_rfl) ?hQ136 ?hN136 (Or.inl ⟨?hw136, ?hy136⟩) hHeld ?rest136
              case hi136 => simp only [List.getElem?_toArray, List.getElem?_cons_zero, List.getElem?_cons_succ]; rfl
              case hQ136 => exact fun _ _ _ h => h
              case hN136 => rfl
              case hw136 => rfl
              case hy136 => intro W hSw; have z0 := pw_cell_below (show Below _ _ W from hSw) p0; have z1 := pw_cell_below (show Below _ _ W from hSw) p1; go_simp; (try with_reducible rfl)
              simp only [Act.put, List.setIfInBounds_toArray, List.set_cons_zero, List.set_cons_succ]
              refine take_ (oi := ?oi137) (i := 13) (N := some 15) (v := ?v137) ?hi137 (by kernel_rfl) (by kernel_rfl) (by kernel_rfl) ?hQ137 ?hN137 (Or.inl ⟨?hw137, ?hy137⟩) hHeld ?rest137
              case hi137 => simp only [List.getElem?_toArray, List.getElem?_cons_zero, List.getElem?_cons_succ]; rfl
              case hQ137 => exact fun _ _ _ h => h
              case hN137 => rfl
              case hw137 => rfl
              case hy137 => intro W hSw; have z0 := pw_cell_below (show Below _ _ W from hSw) p0; have z1 := pw_cell_below (show Below _ _ W from hSw) p1; go_simp; (try with_reducible rfl)
              simp only [Act.put, List.setIfInBounds_toArray, List.set_cons_zero, List.set_cons_succ]
              refine take_ (oi := ?oi138) (i := 14) (N := some 16) (v := ?v138) ?hi138 (by kernel_rfl) (by kernel_rfl) (by kernel_rfl) ?hQ138 ?hN138 (Or.inl ⟨?hw138, ?hy138⟩) hHeld ?rest138
              case hi138 => simp only [List.getElem?_toArray, List.getElem?_cons_zero, List.getElem?_cons_succ]; rfl
              case hQ138 => exact fun _ _ _ h => h
              case hN138 => rfl
              case hw138 => rfl
              case hy138 => intro W hSw; have z0 := pw_cell_below (show Below _ _ W from hSw) p0; have z1 := pw_cell_below (show Below _ _ W from hSw) p1; go_simp; (try with_reducible rfl)
              simp only [Act.put, List.setIfInBounds_toArray, List.set_cons_zero, List.set_cons_succ]
              refine wpAnyH_done (by kernel_rfl) ?_ _
              refine NoPanic.normal ?_
              have HB4 : Aside0 (Below w3.heap.size w3 v9) := ⟨below_step HB2.out hHeld⟩
              have s0 := pw_cell_below HB4.out gx
              have s1 := pw_cell_below HB4.out gp
              clear hHeld p0 p1 HB2
              generalize v9 = V2 at *
              go_wp2
              refine wp_region_noPanic ?_
              refine wp_region_held_drew (S := fun W => Below V2.heap.size V2 W) (by kernel_rfl) ?_ (fun hHeld => ?_)
              · exact below_drew (Below.refl _ _)
              refine take_ (oi := ?oi91) (i := 0) (N := some 105) (v := ?v91) ?hi91 (by kernel_rfl) (by kernel_rfl) (by kernel_rfl) ?hQ91 ?hN91 (Or.inl ⟨?hw91, ?hy91⟩) hHeld ?rest91
              case hi91 => simp only [List.getElem?_toArray, List.getElem?_cons_zero, List.getElem?_cons_succ]; rfl
              case hQ91 => exact fun _ _ _ h => h
              case hN91 => rfl
              case hw91 => rfl
              case hy91 => intro W hSw; have z0 := pw_cell_below (show Below _ _ W from hSw) s0; have z1 := pw_cell_below (show Below _ _ W from hSw) s1; go_simp; (try with_reducible rfl)
              simp only [Act.put, List.setIfInBounds_toArray, List.set_cons_zero, List.set_cons_succ]
              refine take_ (oi := ?oi92) (i := 1) (N := some 106) (v := ?v92) ?hi92 (by kernel_rfl) (by kernel_rfl) (by kernel_rfl) ?hQ92 ?hN92 (Or.inl ⟨?hw92, ?hy92⟩) hHeld ?rest92
              case hi92 => simp only [List.getElem?_toArray, List.getElem?_cons_zero, List.getElem?_cons_succ]; rfl
              case hQ92 => exact fun _ _ _ h => h
              case hN92 => rfl
              case hw92 => rfl
              case hy92 => intro W hSw; have z0 := pw_cell_below (show Below _ _ W from hSw) s0; have z1 := pw_cell_below (show Below _ _ W from hSw) s1; go_simp; (try with_reducible rfl)
              simp only [Act.put, List.setIfInBounds_toArray, List.set_cons_zero, List.set_cons_succ]
              refine take_ (oi := ?oi93) (i := 2) (N := some 107) (v := ?v93) ?hi93 (by kernel_rfl) (by kernel_rfl) (by kernel_rfl) ?hQ93 ?hN93 (Or.inl ⟨?hw93, ?hy93⟩) hHeld ?rest93
              case hi93 => simp only [List.getElem?_toArray, List.getElem?_cons_zero, List.getElem?_cons_succ]; rfl
              case hQ93 => exact fun _ _ _ h => h
              case hN93 => rfl
              case hw93 => rfl
              case hy93 => intro W hSw; have z0 := pw_cell_below (show Below _ _ W from hSw) s0; have z1 := pw_cell_below (show Below _ _ W from hSw) s1; go_simp; (try with_reducible rfl)
              simp only [Act.put, List.setIfInBounds_toArray, List.set_cons_zero, List.set_cons_succ]
              refine take_ (oi := ?oi94) (i := 3) (N := some 108) (v := ?v94) ?hi94 (by kernel_rfl) (by kernel_rfl) (by kernel_rfl) ?hQ94 ?hN94 (Or.inl ⟨?hw94, ?hy94⟩) hHeld ?rest94
              case hi94 => simp only [List.getElem?_toArray, List.getElem?_cons_zero, List.getElem?_cons_succ]; rfl
              case hQ94 => exact fun _ _ _ h => h
              case hN94 => rfl
              case hw94 => rfl
              case hy94 => intro W hSw; have z0 := pw_cell_below (show Below _ _ W from hSw) s0; have z1 := pw_cell_below (show Below _ _ W from hSw) s1; go_simp; (try with_reducible rfl)
              simp only [Act.put, List.setIfInBounds_toArray, List.set_cons_zero, List.set_cons_succ]
              refine take_ (oi := ?oi95) (i := 4) (N := some 109) (v := ?v95) ?hi95 (by kernel_rfl) (by kernel_rfl) (by kernel_rfl) ?hQ95 ?hN95 (Or.inl ⟨?hw95, ?hy95⟩) hHeld ?rest95
              case hi95 => simp only [List.getElem?_toArray, List.getElem?_cons_zero, List.getElem?_cons_succ]; rfl
              case hQ95 => exact fun _ _ _ h => h
              case hN95 => rfl
              case hw95 => rfl
              case hy95 => intro W hSw; have z0 := pw_cell_below (show Below _ _ W from hSw) s0; have z1 := pw_cell_below (show Below _ _ W from hSw) s1; go_simp; (try with_reducible rfl)
              simp only [Act.put, List.setIfInBounds_toArray, List.set_cons_zero, List.set_cons_succ]
              refine take_ (oi := ?oi96) (i := 5) (N := some 110) (v := ?v96) ?hi96 (by kernel_rfl) (by kernel_rfl) (by kernel_rfl) ?hQ96 ?hN96 (Or.inl ⟨?hw96, ?hy96⟩) hHeld ?rest96
              case hi96 => simp only [List.getElem?_toArray, List.getElem?_cons_zero, List.getElem?_cons_succ]; rfl
              case hQ96 => exact fun _ _ _ h => h
              case hN96 => rfl
              case hw96 => rfl
              case hy96 => intro W hSw; have z0 := pw_cell_below (show Below _ _ W from hSw) s0; have z1 := pw_cell_below (show Below _ _ W from hSw) s1; go_simp; (try with_reducible rfl)
              simp only [Act.put, List.setIfInBounds_toArray, List.set_cons_zero, List.set_cons_succ]
              refine take_ (oi := ?oi97) (i := 6) (N := some 111) (v := ?v97) ?hi97 (by kernel_rfl) (by kernel_rfl) (by kernel_rfl) ?hQ97 ?hN97 (Or.inl ⟨?hw97, ?hy97⟩) hHeld ?rest97
              case hi97 => simp only [List.getElem?_toArray, List.getElem?_cons_zero, List.getElem?_cons_succ]; rfl
              case hQ97 => exact fun _ _ _ h => h
              case hN97 => rfl
              case hw97 => rfl
              case hy97 => intro W hSw; have z0 := pw_cell_below (show Below _ _ W from hSw) s0; have z1 := pw_cell_below (show Below _ _ W from hSw) s1; go_simp; (try with_reducible rfl)
              simp only [Act.put, List.setIfInBounds_toArray, List.set_cons_zero, List.set_cons_succ]
              refine take_ (oi := ?oi98) (i := 7) (N := some 112) (v := ?v98) ?hi98 (by kernel_rfl) (by kernel_rfl) (by kernel_rfl) ?hQ98 ?hN98 (Or.inl ⟨?hw98, ?hy98⟩) hHeld ?rest98
              case hi98 => simp only [List.getElem?_toArray, List.getElem?_cons_zero, List.getElem?_cons_succ]; rfl
              case hQ98 => exact fun _ _ _ h => h
              case hN98 => rfl
              case hw98 => rfl
              case hy98 => intro W hSw; have z0 := pw_cell_below (show Below _ _ W from hSw) s0; have z1 := pw_cell_below (show Below _ _ W from hSw) s1; go_simp; (try with_reducible rfl)
              simp only [Act.put, List.setIfInBounds_toArray, List.set_cons_zero, List.set_cons_succ]
              refine take_ (oi := ?oi99) (i := 8) (N := some 113) (v := ?v99) ?hi99 (by kernel_rfl) (by kernel_rfl) (by kernel_rfl) ?hQ99 ?hN99 (Or.inl ⟨?hw99, ?hy99⟩) hHeld ?rest99
              case hi99 => simp only [List.getElem?_toArray, List.getElem?_cons_zero, List.getElem?_cons_succ]; rfl
              case hQ99 => exact fun _ _ _ h => h
              case hN99 => rfl
              case hw99 => rfl
              case hy99 => intro W hSw; have z0 := pw_cell_below (show Below _ _ W from hSw) s0; have z1 := pw_cell_below (show Below _ _ W from hSw) s1; go_simp; (try with_reducible rfl)
              simp only [Act.put, List.setIfInBounds_toArray, List.set_cons_zero, List.set_cons_succ]
              refine take_ (oi := ?oi100) (i := 9) (N := some 114) (v := ?v100) ?hi100 (by kernel_rfl) (by kernel_rfl) (by kernel_rfl) ?hQ100 ?hN100 (Or.inl ⟨?hw100, ?hy100⟩) hHeld ?rest100
              case hi100 => simp only [List.getElem?_toArray, List.getElem?_cons_zero, List.getElem?_cons_succ]; rfl
              case hQ100 => exact fun _ _ _ h => h
              case hN100 => rfl
              case hw100 => rfl
              case hy100 => intro W hSw; have z0 := pw_cell_below (show Below _ _ W from hSw) s0; have z1 := pw_cell_below (show Below _ _ W from hSw) s1; go_simp; (try with_reducible rfl)
              simp only [Act.put, List.setIfInBounds_toArray, List.set_cons_zero, List.set_cons_succ]
              refine take_ (oi := ?oi101) (i := 10) (N := some 115) (v := ?v101) ?hi101 (by kernel_rfl) (by kernel_rfl) (by kernel_rfl) ?hQ101 ?hN101 (Or.inl ⟨?hw101, ?hy101⟩) hHeld ?rest101
              case hi101 => simp only [List.getElem?_toArray, List.getElem?_cons_zero, List.getElem?_cons_succ]; rfl
              case hQ101 => exact fun _ _ _ h => h
              case hN101 => rfl
              case hw101 => rfl
              case hy101 => intro W hSw; have z0 := pw_cell_below (show Below _ _ W from hSw) s0; have z1 := pw_cell_below (show Below _ _ W from hSw) s1; go_simp; (try with_reducible rfl)
              simp only [Act.put, List.setIfInBounds_toArray, List.set_cons_zero, List.set_cons_succ]
              refine take_ (oi := ?oi102) (i := 11) (N := some 116) (v := ?v102) ?hi102 (by kernel_rfl) (by kernel_rfl) (by kernel_rfl) ?hQ102 ?hN102 (Or.inl ⟨?hw102, ?hy102⟩) hHeld ?rest102
              case hi102 => simp only [List.getElem?_toArray, List.getElem?_cons_zero, List.getElem?_cons_succ]; rfl
              case hQ102 => exact fun _ _ _ h => h
              case hN102 => rfl
              case hw102 => rfl
              case hy102 => intro W hSw; have z0 := pw_cell_below (show Below _ _ W from hSw) s0; have z1 := pw_cell_below (show Below _ _ W from hSw) s1; go_simp; (try with_reducible rfl)
              simp only [Act.put, List.setIfInBounds_toArray, List.set_cons_zero, List.set_cons_succ]
              refine take_ (oi := ?oi103) (i := 13) (N := some 118) (v := ?v103) ?hi103 (by kernel_rfl) (by kernel_rfl) (by kernel_rfl) ?hQ103 ?hN103 (Or.inl ⟨?hw103, ?hy103⟩) hHeld ?rest103
              case hi103 => simp only [List.getElem?_toArray, List.getElem?_cons_zero, List.getElem?_cons_succ]; rfl
              case hQ103 => exact fun _ _ _ h => h
              case hN103 => rfl
              case hw103 => rfl
              case hy103 => intro W hSw; have z0 := pw_cell_below (show Below _ _ W from hSw) s0; have z1 := pw_cell_below (show Below _ _ W from hSw) s1; go_simp; (try with_reducible rfl)
              simp only [Act.put, List.setIfInBounds_toArray, List.set_cons_zero, List.set_cons_succ]
              refine wpAnyH_ready (rs := [12]) (by kernel_rfl) (by simp) ?_
              refine AllReadyH.cons (o := ?oi104) ?hi104 (fun K hK => ?step104) AllReadyH.nil
              case hi104 => simp only [List.getElem?_toArray, List.getElem?_cons_zero, List.getElem?_cons_succ]; rfl
              refine goes_ (N := some 117) Tryd.func12 (by kernel_rfl) rfl #[.int .i64 (0)] (by rfl) rfl rfl (by (try simp only [List.map_toArray, List.map_cons, List.map_nil]); rfl) ?_
              refine (sign_ok _ _).mono ?_
              rintro e v12 ⟨rfl, hb⟩
              refine ⟨_, rfl, ?_⟩
              refine hK.out _ _ (below_step hHeld hb) (fun hHeld => ?_)
              clear hK K hb
              simp only [Act.put, List.setIfInBounds_toArray, List.set_cons_zero, List.set_cons_succ]
              refine wpAnyH_ready (rs := [14]) (by kernel_rfl) (by simp) ?_
              refine AllReadyH.cons (o := ?oi105) ?hi105 (fun K hK => ?step105) AllReadyH.nil
              case hi105 => simp only [List.getElem?_toArray, List.getElem?_cons_zero, List.getElem?_cons_succ]; rfl
              refine goes_ (N := some 119) Tryd.func12 (by kernel_rfl) rfl #[.int .i64 (0)] (by rfl) rfl rfl (by (try simp only [List.map_toArray, List.map_cons, List.map_nil]); rfl) ?_
              refine (sign_ok _ _).mono ?_
              rintro e v14 ⟨rfl, hb⟩
              refine ⟨_, rfl, ?_⟩
              refine hK.out _ _ (below_step hHeld hb) (fun hHeld => ?_)
              clear hK K hb
              simp only [Act.put, List.setIfInBounds_toArray, List.set_cons_zero, List.set_cons_succ]
              refine take_ (oi := ?oi106) (i := 15) (N := some 120) (v := ?v106) ?hi106 (by kernel_rfl) (by kernel_rfl) (by kernel_rfl) ?hQ106 ?hN106 (Or.inl ⟨?hw106, ?hy106⟩) hHeld ?rest106
              case hi106 => simp only [List.getElem?_toArray, List.getElem?_cons_zero, List.getElem?_cons_succ]; rfl
              case hQ106 => exact fun _ _ _ h => h
              case hN106 => rfl
              case hw106 => rfl
              case hy106 => intro W hSw; have z0 := pw_cell_below (show Below _ _ W from hSw) s0; have z1 := pw_cell_below (show Below _ _ W from hSw) s1; go_simp; (try with_reducible rfl)
              simp only [Act.put, List.setIfInBounds_toArray, List.set_cons_zero, List.set_cons_succ]
              refine take_ (oi := ?oi107) (i := 16) (N := some 121) (v := ?v107) ?hi107 (by kernel_rfl) (by kernel_rfl) (by kernel_rfl) ?hQ107 ?hN107 (Or.inl ⟨?hw107, ?hy107⟩) hHeld ?rest107
              case hi107 => simp only [List.getElem?_toArray, List.getElem?_cons_zero, List.getElem?_cons_succ]; rfl
              case hQ107 => exact fun _ _ _ h => h
              case hN107 => rfl
              case hw107 => rfl
              case hy107 => intro W hSw; have z0 := pw_cell_below (show Below _ _ W from hSw) s0; have z1 := pw_cell_below (show Below _ _ W from hSw) s1; go_simp; (try with_reducible rfl)
              simp only [Act.put, List.setIfInBounds_toArray, List.set_cons_zero, List.set_cons_succ]
              refine take_ (oi := ?oi108) (i := 17) (N := some 122) (v := ?v108) ?hi108 (by kernel_rfl) (by kernel_rfl) (by kernel_rfl) ?hQ108 ?hN108 (Or.inl ⟨?hw108, ?hy108⟩) hHeld ?rest108
              case hi108 => simp only [List.getElem?_toArray, List.getElem?_cons_zero, List.getElem?_cons_succ]; rfl
              case hQ108 => exact fun _ _ _ h => h
              case hN108 => rfl
              case hw108 => rfl
              case hy108 => intro W hSw; have z0 := pw_cell_below (show Below _ _ W from hSw) s0; have z1 := pw_cell_below (show Below _ _ W from hSw) s1; go_simp; (try with_reducible rfl)
              simp only [Act.put, List.setIfInBounds_toArray, List.set_cons_zero, List.set_cons_succ]
              refine take_ (oi := ?oi109) (i := 18) (N := some 123) (v := ?v109) ?hi109 (by kernel_rfl) (by kernel_rfl) (by kernel_rfl) ?hQ109 ?hN109 (Or.inl ⟨?hw109, ?hy109⟩) hHeld ?rest109
              case hi109 => simp only [List.getElem?_toArray, List.getElem?_cons_zero, List.getElem?_cons_succ]; rfl
              case hQ109 => exact fun _ _ _ h => h
              case hN109 => rfl
              case hw109 => rfl
              case hy109 => intro W hSw; have z0 := pw_cell_below (show Below _ _ W from hSw) s0; have z1 := pw_cell_below (show Below _ _ W from hSw) s1; go_simp; (try with_reducible rfl)
              simp only [Act.put, List.setIfInBounds_toArray, List.set_cons_zero, List.set_cons_succ]
              refine take_ (oi := ?oi110) (i := 19) (N := some 124) (v := ?v110) ?hi110 (by kernel_rfl) (by kernel_rfl) (by kernel_rfl) ?hQ110 ?hN110 (Or.inl ⟨?hw110, ?hy110⟩) hHeld ?rest110
              case hi110 => simp only [List.getElem?_toArray, List.getElem?_cons_zero, List.getElem?_cons_succ]; rfl
              case hQ110 => exact fun _ _ _ h => h
              case hN110 => rfl
              case hw110 => rfl
              case hy110 => intro W hSw; have z0 := pw_cell_below (show Below _ _ W from hSw) s0; have z1 := pw_cell_below (show Below _ _ W from hSw) s1; go_simp; (try with_reducible rfl)
              simp only [Act.put, List.setIfInBounds_toArray, List.set_cons_zero, List.set_cons_succ]
              refine take_ (oi := ?oi111) (i := 20) (N := some 125) (v := ?v111) ?hi111 (by kernel_rfl) (by kernel_rfl) (by kernel_rfl) ?hQ111 ?hN111 (Or.inl ⟨?hw111, ?hy111⟩) hHeld ?rest111
              case hi111 => simp only [List.getElem?_toArray, List.getElem?_cons_zero, List.getElem?_cons_succ]; rfl
              case hQ111 => exact fun _ _ _ h => h
              case hN111 => rfl
              case hw111 => rfl
              case hy111 => intro W hSw; have z0 := pw_cell_below (show Below _ _ W from hSw) s0; have z1 := pw_cell_below (show Below _ _ W from hSw) s1; go_simp; (try with_reducible rfl)
              simp only [Act.put, List.setIfInBounds_toArray, List.set_cons_zero, List.set_cons_succ]
              refine take_ (oi := ?oi112) (i := 21) (N := some 126) (v := ?v112) ?hi112 (by kernel_rfl) (by kernel_rfl) (by kernel_rfl) ?hQ112 ?hN112 (Or.inl ⟨?hw112, ?hy112⟩) hHeld ?rest112
              case hi112 => simp only [List.getElem?_toArray, List.getElem?_cons_zero, List.getElem?_cons_succ]; rfl
              case hQ112 => exact fun _ _ _ h => h
              case hN112 => rfl
              case hw112 => rfl
              case hy112 => intro W hSw; have z0 := pw_cell_below (show Below _ _ W from hSw) s0; have z1 := pw_cell_below (show Below _ _ W from hSw) s1; go_simp; (try with_reducible rfl)
              simp only [Act.put, List.setIfInBounds_toArray, List.set_cons_zero, List.set_cons_succ]
              refine take_ (oi := ?oi113) (i := 22) (N := some 127) (v := ?v113) ?hi113 (by kernel_rfl) (by kernel_rfl) (by kernel_rfl) ?hQ113 ?hN113 (Or.inl ⟨?hw113, ?hy113⟩) hHeld ?rest113
              case hi113 => simp only [List.getElem?_toArray, List.getElem?_cons_zero, List.getElem?_cons_succ]; rfl
              case hQ113 => exact fun _ _ _ h => h
              case hN113 => rfl
              case hw113 => rfl
              case hy113 => intro W hSw; have z0 := pw_cell_below (show Below _ _ W from hSw) s0; have z1 := pw_cell_below (show Below _ _ W from hSw) s1; go_simp; (try with_reducible rfl)
              simp only [Act.put, List.setIfInBounds_toArray, List.set_cons_zero, List.set_cons_succ]
              refine take_ (oi := ?oi114) (i := 23) (N := some 128) (v := ?v114) ?hi114 (by kernel_rfl) (by kernel_rfl) (by kernel_rfl) ?hQ114 ?hN114 (Or.inl ⟨?hw114, ?hy114⟩) hHeld ?rest114
              case hi114 => simp only [List.getElem?_toArray, List.getElem?_cons_zero, List.getElem?_cons_succ]; rfl
              case hQ114 => exact fun _ _ _ h => h
              case hN114 => rfl
              case hw114 => rfl
              case hy114 => intro W hSw; have z0 := pw_cell_below (show Below _ _ W from hSw) s0; have z1 := pw_cell_below (show Below _ _ W from hSw) s1; go_simp; (try with_reducible rfl)
              simp only [Act.put, List.setIfInBounds_toArray, List.set_cons_zero, List.set_cons_succ]
              refine take_ (oi := ?oi115) (i := 24) (N := some 129) (v := ?v115) ?hi115 (by kernel_rfl) (by kernel_rfl) (by kernel_rfl) ?hQ115 ?hN115 (Or.inl ⟨?hw115, ?hy115⟩) hHeld ?rest115
              case hi115 => simp only [List.getElem?_toArray, List.getElem?_cons_zero, List.getElem?_cons_succ]; rfl
              case hQ115 => exact fun _ _ _ h => h
              case hN115 => rfl
              case hw115 => rfl
              case hy115 => intro W hSw; have z0 := pw_cell_below (show Below _ _ W from hSw) s0; have z1 := pw_cell_below (show Below _ _ W from hSw) s1; go_simp; (try with_reducible rfl)
              simp only [Act.put, List.setIfInBounds_toArray, List.set_cons_zero, List.set_cons_succ]
              refine take_ (oi := ?oi116) (i := 25) (N := some 130) (v := ?v116) ?hi116 (by kernel_rfl) (by kernel_rfl) (by kernel_rfl) ?hQ116 ?hN116 (Or.inl ⟨?hw116, ?hy116⟩) hHeld ?rest116
              case hi116 => simp only [List.getElem?_toArray, List.getElem?_cons_zero, List.getElem?_cons_succ]; rfl
              case hQ116 => exact fun _ _ _ h => h
              case hN116 => rfl
              case hw116 => rfl
              case hy116 => intro W hSw; have z0 := pw_cell_below (show Below _ _ W from hSw) s0; have z1 := pw_cell_below (show Below _ _ W from hSw) s1; go_simp; (try with_reducible rfl)
              simp only [Act.put, List.setIfInBounds_toArray, List.set_cons_zero, List.set_cons_succ]
              refine take_ (oi := ?oi117) (i := 26) (N := some 131) (v := ?v117) ?hi117 (by kernel_rfl) (by kernel_rfl) (by kernel_rfl) ?hQ117 ?hN117 (Or.inl ⟨?hw117, ?hy117⟩) hHeld ?rest117
              case hi117 => simp only [List.getElem?_toArray, List.getElem?_cons_zero, List.getElem?_cons_succ]; rfl
              case hQ117 => exact fun _ _ _ h => h
              case hN117 => rfl
              case hw117 => rfl
              case hy117 => intro W hSw; have z0 := pw_cell_below (show Below _ _ W from hSw) s0; have z1 := pw_cell_below (show Below _ _ W from hSw) s1; go_simp; (try with_reducible rfl)
              simp only [Act.put, List.setIfInBounds_toArray, List.set_cons_zero, List.set_cons_succ]
              refine take_ (oi := ?oi118) (i := 27) (N := some 132) (v := ?v118) ?hi118 (by kernel_rfl) (by kernel_rfl) (by kernel_rfl) ?hQ118 ?hN118 (Or.inl ⟨?hw118, ?hy118⟩) hHeld ?rest118
              case hi118 => simp only [List.getElem?_toArray, List.getElem?_cons_zero, List.getElem?_cons_succ]; rfl
              case hQ118 => exact fun _ _ _ h => h
              case hN118 => rfl
              case hw118 => rfl
              case hy118 => intro W hSw; have z0 := pw_cell_below (show Below _ _ W from hSw) s0; have z1 := pw_cell_below (show Below _ _ W from hSw) s1; go_simp; (try with_reducible rfl)
              simp only [Act.put, List.setIfInBounds_toArray, List.set_cons_zero, List.set_cons_succ]
              refine take_ (oi := ?oi119) (i := 28) (N := some 133) (v := ?v119) ?hi119 (by kernel_rfl) (by kernel_rfl) (by kernel_rfl) ?hQ119 ?hN119 (Or.inl ⟨?hw119, ?hy119⟩) hHeld ?rest119
              case hi119 => simp only [List.getElem?_toArray, List.getElem?_cons_zero, List.getElem?_cons_succ]; rfl
              case hQ119 => exact fun _ _ _ h => h
              case hN119 => rfl
              case hw119 => rfl
              case hy119 => intro W hSw; have z0 := pw_cell_below (show Below _ _ W from hSw) s0; have z1 := pw_cell_below (show Below _ _ W from hSw) s1; go_simp; (try with_reducible rfl)
              simp only [Act.put, List.setIfInBounds_toArray, List.set_cons_zero, List.set_cons_succ]
              refine take_ (oi := ?oi120) (i := 29) (N := some 134) (v := ?v120) ?hi120 (by kernel_rfl) (by kernel_rfl) (by kernel_rfl) ?hQ120 ?hN120 (Or.inl ⟨?hw120, ?hy120⟩) hHeld ?rest120
              case hi120 => simp only [List.getElem?_toArray, List.getElem?_cons_zero, List.getElem?_cons_succ]; rfl
              case hQ120 => exact fun _ _ _ h => h
              case hN120 => rfl
              case hw120 => rfl
              case hy120 => intro W hSw; have z0 := pw_cell_below (show Below _ _ W from hSw) s0; have z1 := pw_cell_below (show Below _ _ W from hSw) s1; go_simp; (try with_reducible rfl)
              simp only [Act.put, List.setIfInBounds_toArray, List.set_cons_zero, List.set_cons_succ]
              refine wpAnyH_ready (rs := [30]) (by kernel_rfl) (by simp) ?_
              refine AllReadyH.cons (o := ?oi121) ?hi121 (fun K hK => ?step121) AllReadyH.nil
              case hi121 => simp only [List.getElem?_toArray, List.getElem?_cons_zero, List.getElem?_cons_succ]; rfl
              refine goes_ (N := some 135) Tryd.func19 (by kernel_rfl) rfl #[.slice Ax m cx, .slice Ap m cp] (by rfl) rfl rfl (by (try simp only [List.map_toArray, List.map_cons, List.map_nil]); rfl) ?_
              refine (NX.out.same _ (below_step HB4.out hHeld)).mono ?_
              rintro e v30 ⟨rfl, hb⟩
              refine ⟨_, rfl, ?_⟩
              refine hK.out _ _ (below_step hHeld hb) (fun hHeld => ?_)
              clear hK K hb
              simp only [Act.put, List.setIfInBounds_toArray, List.set_cons_zero, List.set_cons_succ]
              refine take_ (oi := ?oi122) (i := 31) (N := some 136) (v := ?v122) ?hi122 (by kernel_rfl) (by kernel_rfl) (by kernel_rfl) ?hQ122 ?hN122 (Or.inl ⟨?hw122, ?hy122⟩) hHeld ?rest122
              case hi122 => simp only [List.getElem?_toArray, List.getElem?_cons_zero, List.getElem?_cons_succ]; rfl
              case hQ122 => exact fun _ _ _ h => h
              case hN122 => rfl
              case hw122 => rfl
              case hy122 => intro W hSw; have z0 := pw_cell_below (show Below _ _ W from hSw) s0; have z1 := pw_cell_below (show Below _ _ W from hSw) s1; go_simp; (try with_reducible rfl)
              simp only [Act.put, List.setIfInBounds_toArray, List.set_cons_zero, List.set_cons_succ]
              refine take_ (oi := ?oi123) (i := 32) (N := some 137) (v := ?v123) ?hi123 (by kernel_rfl) (by kernel_rfl) (by kernel_rfl) ?hQ123 ?hN123 (Or.inl ⟨?hw123, ?hy123⟩) hHeld ?rest123
              case hi123 => simp only [List.getElem?_toArray, List.getElem?_cons_zero, List.getElem?_cons_succ]; rfl
              case hQ123 => exact fun _ _ _ h => h
              case hN123 => rfl
              case hw123 => rfl
              case hy123 => intro W hSw; have z0 := pw_cell_below (show Below _ _ W from hSw) s0; have z1 := pw_cell_below (show Below _ _ W from hSw) s1; go_simp; (try with_reducible rfl)
              simp only [Act.put, List.setIfInBounds_toArray, List.set_cons_zero, List.set_cons_succ]
              refine wpAnyH_done (by kernel_rfl) ?_ _
              refine NoPanic.normal ?_
              have HB5 : Aside0 (Below w3.heap.size w3 v30) := ⟨below_step HB4.out hHeld⟩
              clear hHeld s0 s1 HB4
              go_wp2
              go_roundw
              case rel => exact ⟨k + 1, by go_num, by omega, HB5⟩
              case measure => simp [intOf]; omega
    · obtain rfl : k = N := by omega
      go_wp2
      go_ret
      exact ⟨rfl, below_step HB3.out HB.out⟩
end Go.Proofs.YtlcoodjkolponaaDoor.PRR
