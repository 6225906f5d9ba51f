/-
  Contracts of MySQLRange.Compare and impl.RRCompare: ranges of several columns compared column by column. No condition but that there are at most 1000 columns, as many in both.
-/
import Derived.Test.YtlcoodjkolponaaDoorRSp
import Derived.Test.YtlcoodjkolponaaDoorRRb
namespace Go.Proofs.YtlcoodjkolponaaDoor.PRR
open Go.RowKit Go.Proofs.YtlcoodjkolponaaDoorW.PrintWords Go.Proofs.YtlcoodjkolponaaDoorW.PrintLast Go.Proofs.YtlcoodjkolponaaDoorW.PrintMore
open Go.Proofs.YtlcoodjkolponaaDoor.PRG (C cmpC typV cmp_ok keep_frozen ends_caught)
set_option linter.unusedVariables false
set_option linter.unusedSimpArgs false
set_option maxRecDepth 100000
set_option maxHeartbeats 4000000

section
variable {P : Program} {md : Region.Mode} {ops : Array Oper} {Q : Exit → Act → World → Prop} {S : World → Prop}
/-- An operation taken first, its place by name. -/
theorem take_ {i : Nat} {oi : Oper} {N : Option Tmp} {v : Value} {fuel : Nat} {listed : Array Bool} {a : Act} {w : World} (hi : ops[i]? = some oi)
    (hs : Region.noSelect ops = true) (hf : Region.free md ops listed i = true) (hr : (Region.ready md ops listed).contains i = true)
    (hQ : ∀ c a w, Q (.panic c) (a.put oi.dst v) w → Q (.panic c) a w) (hN : oi.dst = N) (hy : YieldsIf P ops S oi v a) (hS : S w)
    (h : wpAnyH P md ops Q S fuel (listed.setIfInBounds i true) (a.put N v) w) : wpAnyH P md ops Q S (fuel + 1) listed a w := by
  subst hN
  exact wpAnyH_take hi hs hf hr hQ hy hS h
end
theorem cmpL_drop (a b : List (C × C)) (k : Nat) (ha : k < a.length) (hb : k < b.length) :
    cmpL (a.drop k) (b.drop k) = if cmpC a[k].1 b[k].1 ≠ 0 then cmpC a[k].1 b[k].1 else if cmpC a[k].2 b[k].2 ≠ 0 then cmpC a[k].2 b[k].2 else cmpL (a.drop (k + 1)) (b.drop (k + 1)) := by
  rw [List.drop_eq_getElem_cons ha, List.drop_eq_getElem_cons hb]; rfl
theorem rrCmp_ok (n : Nat) (A1 : Option Addr) (c1 : Nat) (a : List (C × C)) (A2 : Option Addr) (c2 : Nat) (b : List (C × C)) (hl : n ≤ 1000) (ha : a.length = n) (hb : b.length = n) (w : World) (hA : Kd.C kE w A1 n a) (hB : Kd.C kE w A2 n b) :
    Calls Tryd.prog 58 #[.slice A1 n c1, .slice A2 n c2] w fun e w' => e = .returned (.tuple #[.int .i64 (cmpL a b), .nilIface]) ∧ Below w.heap.size w w' := by
  have HA := Aside0.mk (fun W (h : Below w.heap.size w W) => Kd.C_below hA h)
  have HB := Aside0.mk (fun W (h : Below w.heap.size w W) => Kd.C_below hB h)
  have La := Aside0.mk ha
  have Lb := Aside0.mk hb
  clear hA hB ha hb
  go_enter Tryd.func58, Tryd.ntmps58
  go_wp2
  go_loopw [17] (fun t wr => ∃ k : Nat, t = .int .i64 (k : Int) ∧ k ≤ n ∧ Aside0 (cmpL a b = cmpL (a.drop k) (b.drop k)) ∧ Aside0 (Below w.heap.size w wr)) (fun t _ => n - (intOf t).toNat)
  case atStart => exact ⟨0, rfl, Nat.zero_le _, ⟨rfl⟩, ⟨Below.refl _ _⟩⟩
  case round =>
    obtain ⟨k, rfl, hk, HT, HW⟩ := hrel
    rcases Nat.lt_or_ge k n with hlt | hge
    · have hka : k < a.length := by rw [La.out]; exact hlt
      have hkb : k < b.length := by rw [Lb.out]; exact hlt
      obtain ⟨ad, rfl, g0, g1, g2⟩ := at_E (HA.out wr HW.out) k hlt hka
      obtain ⟨bd, rfl, f0, f1, f2⟩ := at_E (HB.out wr HW.out) k hlt hkb
      have HT1 := Aside0.mk (HT.out.trans (cmpL_drop a b k hka hkb))
      generalize a[k] = p at *
      generalize b[k] = q at *
      generalize p.1 = p1 at *
      generalize p.2 = p2 at *
      generalize q.1 = q1 at *
      generalize q.2 = q2 at *
      clear hka hkb HT HA HB
      have HC1 := Aside0.mk (cmp_ok p1 q1)
      have HC2 := Aside0.mk (cmp_ok p2 q2)
      generalize hz1 : cmpC p1 q1 = z1 at *
      generalize hz2 : cmpC p2 q2 = z2 at *
      clear hz1 hz2
      go_wp2
      refine wp_region_noPanic ?_
      refine wp_region_held_drew (S := fun W => Below wr.heap.size wr W) (by kernel_rfl) ?_ (fun hHeld => ?_)
      · exact below_drew (Below.refl _ _)
      refine take_ (oi := ?oi24) (i := 0) (N := some 21) (v := ?v24) ?hi24 (by kernel_rfl) (by kernel_rfl) (by kernel_rfl) ?hQ24 ?hN24 (Or.inl ⟨?hw24, ?hy24⟩) hHeld ?rest24
      case hi24 => simp only [List.getElem?_toArray, List.getElem?_cons_zero, List.getElem?_cons_succ]; rfl
      case hQ24 => exact fun _ _ _ h => h
      case hN24 => rfl
      case hw24 => rfl
      case hy24 => intro W hSw; have z0 := pw_cell_below (show Below _ _ W from hSw) g0; have z1 := pw_cell_below (show Below _ _ W from hSw) f0; have z2 := pw_cell_below (show Below _ _ W from hSw) g2; go_simp; (try with_reducible rfl)
      simp only [Act.put, List.setIfInBounds_toArray, List.set_cons_zero, List.set_cons_succ]
      refine take_ (oi := ?oi25) (i := 1) (N := some 22) (v := ?v25) ?hi25 (by kernel_rfl) (by kernel_rfl) (by kernel_rfl) ?hQ25 ?hN25 (Or.inl ⟨?hw25, ?hy25⟩) hHeld ?rest25
      case hi25 => simp only [List.getElem?_toArray, List.getElem?_cons_zero, List.getElem?_cons_succ]; rfl
      case hQ25 => exact fun _ _ _ h => h
      case hN25 => rfl
      case hw25 => rfl
      case hy25 => intro W hSw; have z0 := pw_cell_below (show Below _ _ W from hSw) g0; have z1 := pw_cell_below (show Below _ _ W from hSw) f0; have z2 := pw_cell_below (show Below _ _ W from hSw) g2; go_simp; (try with_reducible rfl)
      simp only [Act.put, List.setIfInBounds_toArray, List.set_cons_zero, List.set_cons_succ]
      refine take_ (oi := ?oi26) (i := 2) (N := some 23) (v := ?v26) ?hi26 (by kernel_rfl) (by kernel_rfl) (by kernel_rfl) ?hQ26 ?hN26 (Or.inl ⟨?hw26, ?hy26⟩) hHeld ?rest26
      case hi26 => simp only [List.getElem?_toArray, List.getElem?_cons_zero, List.getElem?_cons_succ]; rfl
      case hQ26 => exact fun _ _ _ h => h
      case hN26 => rfl
      case hw26 => rfl
      case hy26 => intro W hSw; have z0 := pw_cell_below (show Below _ _ W from hSw) g0; have z1 := pw_cell_below (show Below _ _ W from hSw) f0; have z2 := pw_cell_below (show Below _ _ W from hSw) g2; go_simp; (try with_reducible rfl)
      simp only [Act.put, List.setIfInBounds_toArray, List.set_cons_zero, List.set_cons_succ]
      refine take_ (oi := ?oi27) (i := 3) (N := some 24) (v := ?v27) ?hi27 (by kernel_rfl) (by kernel_rfl) (by kernel_rfl) ?hQ27 ?hN27 (Or.inl ⟨?hw27, ?hy27⟩) hHeld ?rest27
      case hi27 => simp only [List.getElem?_toArray, List.getElem?_cons_zero, List.getElem?_cons_succ]; rfl
      case hQ27 => exact fun _ _ _ h => h
      case hN27 => rfl
      case hw27 => rfl
      case hy27 => intro W hSw; have z0 := pw_cell_below (show Below _ _ W from hSw) g0; have z1 := pw_cell_below (show Below _ _ W from hSw) f0; have z2 := pw_cell_below (show Below _ _ W from hSw) g2; go_simp; (try with_reducible rfl)
      simp only [Act.put, List.setIfInBounds_toArray, List.set_cons_zero, List.set_cons_succ]
      refine take_ (oi := ?oi28) (i := 4) (N := some 25) (v := ?v28) ?hi28 (by kernel_rfl) (by kernel_rfl) (by kernel_rfl) ?hQ28 ?hN28 (Or.inl ⟨?hw28, ?hy28⟩) hHeld ?rest28
      case hi28 => simp only [List.getElem?_toArray, List.getElem?_cons_zero, List.getElem?_cons_succ]; rfl
      case hQ28 => exact fun _ _ _ h => h
      case hN28 => rfl
      case hw28 => rfl
      case hy28 => intro W hSw; have z0 := pw_cell_below (show Below _ _ W from hSw) g0; have z1 := pw_cell_below (show Below _ _ W from hSw) f0; have z2 := pw_cell_below (show Below _ _ W from hSw) g2; go_simp; (try with_reducible rfl)
      simp only [Act.put, List.setIfInBounds_toArray, List.set_cons_zero, List.set_cons_succ]
      refine take_ (oi := ?oi29) (i := 5) (N := some 26) (v := ?v29) ?hi29 (by kernel_rfl) (by kernel_rfl) (by kernel_rfl) ?hQ29 ?hN29 (Or.inl ⟨?hw29, ?hy29⟩) hHeld ?rest29
      case hi29 => simp only [List.getElem?_toArray, List.getElem?_cons_zero, List.getElem?_cons_succ]; rfl
      case hQ29 => exact fun _ _ _ h => h
      case hN29 => rfl
      case hw29 => rfl
      case hy29 => intro W hSw; have z0 := pw_cell_below (show Below _ _ W from hSw) g0; have z1 := pw_cell_below (show Below _ _ W from hSw) f0; have z2 := pw_cell_below (show Below _ _ W from hSw) g2; go_simp; (try with_reducible rfl)
      simp only [Act.put, List.setIfInBounds_toArray, List.set_cons_zero, List.set_cons_succ]
      refine take_ (oi := ?oi30) (i := 6) (N := some 27) (v := ?v30) ?hi30 (by kernel_rfl) (by kernel_rfl) (by kernel_rfl) ?hQ30 ?hN30 (Or.inl ⟨?hw30, ?hy30⟩) hHeld ?rest30
      case hi30 => simp only [List.getElem?_toArray, List.getElem?_cons_zero, List.getElem?_cons_succ]; rfl
      case hQ30 => exact fun _ _ _ h => h
      case hN30 => rfl
      case hw30 => rfl
      case hy30 => intro W hSw; have z0 := pw_cell_below (show Below _ _ W from hSw) g0; have z1 := pw_cell_below (show Below _ _ W from hSw) f0; have z2 := pw_cell_below (show Below _ _ W from hSw) g2; go_simp; (try with_reducible rfl)
      simp only [Act.put, List.setIfInBounds_toArray, List.set_cons_zero, List.set_cons_succ]
      refine take_ (oi := ?oi31) (i := 7) (N := some 28) (v := ?v31) ?hi31 (by kernel_rfl) (by kernel_rfl) (by kernel_rfl) ?hQ31 ?hN31 (Or.inl ⟨?hw31, ?hy31⟩) hHeld ?rest31
      case hi31 => simp only [List.getElem?_toArray, List.getElem?_cons_zero, List.getElem?_cons_succ]; rfl
      case hQ31 => exact fun _ _ _ h => h
      case hN31 => rfl
      case hw31 => rfl
      case hy31 => intro W hSw; have z0 := pw_cell_below (show Below _ _ W from hSw) g0; have z1 := pw_cell_below (show Below _ _ W from hSw) f0; have z2 := pw_cell_below (show Below _ _ W from hSw) g2; go_simp; (try with_reducible rfl)
      simp only [Act.put, List.setIfInBounds_toArray, List.set_cons_zero, List.set_cons_succ]
      refine take_ (oi := ?oi32) (i := 8) (N := some 29) (v := ?v32) ?hi32 (by kernel_rfl) (by kernel_rfl) (by kernel_rfl) ?hQ32 ?hN32 (Or.inl ⟨?hw32, ?hy32⟩) hHeld ?rest32
      case hi32 => simp only [List.getElem?_toArray, List.getElem?_cons_zero, List.getElem?_cons_succ]; rfl
      case hQ32 => exact fun _ _ _ h => h
      case hN32 => rfl
      case hw32 => rfl
      case hy32 => intro W hSw; have z0 := pw_cell_below (show Below _ _ W from hSw) g0; have z1 := pw_cell_below (show Below _ _ W from hSw) f0; have z2 := pw_cell_below (show Below _ _ W from hSw) g2; go_simp; (try with_reducible rfl)
      simp only [Act.put, List.setIfInBounds_toArray, List.set_cons_zero, List.set_cons_succ]
      refine take_ (oi := ?oi33) (i := 9) (N := some 30) (v := ?v33) ?hi33 (by kernel_rfl) (by kernel_rfl) (by kernel_rfl) ?hQ33 ?hN33 (Or.inl ⟨?hw33, ?hy33⟩) hHeld ?rest33
      case hi33 => simp only [List.getElem?_toArray, List.getElem?_cons_zero, List.getElem?_cons_succ]; rfl
      case hQ33 => exact fun _ _ _ h => h
      case hN33 => rfl
      case hw33 => rfl
      case hy33 => intro W hSw; have z0 := pw_cell_below (show Below _ _ W from hSw) g0; have z1 := pw_cell_below (show Below _ _ W from hSw) f0; have z2 := pw_cell_below (show Below _ _ W from hSw) g2; go_simp; (try with_reducible rfl)
      simp only [Act.put, List.setIfInBounds_toArray, List.set_cons_zero, List.set_cons_succ]
      refine take_ (oi := ?oi34) (i := 10) (N := some 31) (v := ?v34) ?hi34 (by kernel_rfl) (by kernel_rfl) (by kernel_rfl) ?hQ34 ?hN34 (Or.inl ⟨?hw34, ?hy34⟩) hHeld ?rest34
      case hi34 => simp only [List.getElem?_toArray, List.getElem?_cons_zero, List.getElem?_cons_succ]; rfl
      case hQ34 => exact fun _ _ _ h => h
      case hN34 => rfl
      case hw34 => rfl
      case hy34 => intro W hSw; have z0 := pw_cell_below (show Below _ _ W from hSw) g0; have z1 := pw_cell_below (show Below _ _ W from hSw) f0; have z2 := pw_cell_below (show Below _ _ W from hSw) g2; go_simp; (try with_reducible rfl)
      simp only [Act.put, List.setIfInBounds_toArray, List.set_cons_zero, List.set_cons_succ]
      refine take_ (oi := ?oi35) (i := 11) (N := some 32) (v := ?v35) ?hi35 (by kernel_rfl) (by kernel_rfl) (by kernel_rfl) ?hQ35 ?hN35 (Or.inl ⟨?hw35, ?hy35⟩) hHeld ?rest35
      case hi35 => simp only [List.getElem?_toArray, List.getElem?_cons_zero, List.getElem?_cons_succ]; rfl
      case hQ35 => exact fun _ _ _ h => h
      case hN35 => rfl
      case hw35 => rfl
      case hy35 => intro W hSw; have z0 := pw_cell_below (show Below _ _ W from hSw) g0; have z1 := pw_cell_below (show Below _ _ W from hSw) f0; have z2 := pw_cell_below (show Below _ _ W from hSw) g2; go_simp; (try with_reducible rfl)
      simp only [Act.put, List.setIfInBounds_toArray, List.set_cons_zero, List.set_cons_succ]
      refine take_ (oi := ?oi36) (i := 12) (N := some 33) (v := ?v36) ?hi36 (by kernel_rfl) (by kernel_rfl) (by kernel_rfl) ?hQ36 ?hN36 (Or.inl ⟨?hw36, ?hy36⟩) hHeld ?rest36
      case hi36 => simp only [List.getElem?_toArray, List.getElem?_cons_zero, List.getElem?_cons_succ]; rfl
      case hQ36 => exact fun _ _ _ h => h
      case hN36 => rfl
      case hw36 => rfl
      case hy36 => intro W hSw; have z0 := pw_cell_below (show Below _ _ W from hSw) g0; have z1 := pw_cell_below (show Below _ _ W from hSw) f0; have z2 := pw_cell_below (show Below _ _ W from hSw) g2; go_simp; (try with_reducible rfl)
      simp only [Act.put, List.setIfInBounds_toArray, List.set_cons_zero, List.set_cons_succ]
      refine take_ (oi := ?oi37) (i := 13) (N := some 34) (v := ?v37) ?hi37 (by kernel_rfl) (by kernel_rfl) (by kernel_rfl) ?hQ37 ?hN37 (Or.inl ⟨?hw37, ?hy37⟩) hHeld ?rest37
      case hi37 => simp only [List.getElem?_toArray, List.getElem?_cons_zero, List.getElem?_cons_succ]; rfl
      case hQ37 => exact fun _ _ _ h => h
      case hN37 => rfl
      case hw37 => rfl
      case hy37 => intro W hSw; have z0 := pw_cell_below (show Below _ _ W from hSw) g0; have z1 := pw_cell_below (show Below _ _ W from hSw) f0; have z2 := pw_cell_below (show Below _ _ W from hSw) g2; go_simp; (try with_reducible rfl)
      simp only [Act.put, List.setIfInBounds_toArray, List.set_cons_zero, List.set_cons_succ]
      refine take_ (oi := ?oi38) (i := 14) (N := some 35) (v := ?v38) ?hi38 (by kernel_rfl) (by kernel_rfl) (by kernel_rfl) ?hQ38 ?hN38 (Or.inl ⟨?hw38, ?hy38⟩) hHeld ?rest38
      case hi38 => simp only [List.getElem?_toArray, List.getElem?_cons_zero, List.getElem?_cons_succ]; rfl
      case hQ38 => exact fun _ _ _ h => h
      case hN38 => rfl
      case hw38 => rfl
      case hy38 => intro W hSw; have z0 := pw_cell_below (show Below _ _ W from hSw) g0; have z1 := pw_cell_below (show Below _ _ W from hSw) f0; have z2 := pw_cell_below (show Below _ _ W from hSw) g2; go_simp; (try with_reducible rfl)
      simp only [Act.put, List.setIfInBounds_toArray, List.set_cons_zero, List.set_cons_succ]
      refine take_ (oi := ?oi39) (i := 15) (N := some 36) (v := ?v39) ?hi39 (by kernel_rfl) (by kernel_rfl) (by kernel_rfl) ?hQ39 ?hN39 (Or.inl ⟨?hw39, ?hy39⟩) hHeld ?rest39
      case hi39 => simp only [List.getElem?_toArray, List.getElem?_cons_zero, List.getElem?_cons_succ]; rfl
      case hQ39 => exact fun _ _ _ h => h
      case hN39 => rfl
      case hw39 => rfl
      case hy39 => intro W hSw; have z0 := pw_cell_below (show Below _ _ W from hSw) g0; have z1 := pw_cell_below (show Below _ _ W from hSw) f0; have z2 := pw_cell_below (show Below _ _ W from hSw) g2; go_simp; (try with_reducible rfl)
      simp only [Act.put, List.setIfInBounds_toArray, List.set_cons_zero, List.set_cons_succ]
      refine take_ (oi := ?oi40) (i := 16) (N := some 37) (v := ?v40) ?hi40 (by kernel_rfl) (by kernel_rfl) (by kernel_rfl) ?hQ40 ?hN40 (Or.inl ⟨?hw40, ?hy40⟩) hHeld ?rest40
      case hi40 => simp only [List.getElem?_toArray, List.getElem?_cons_zero, List.getElem?_cons_succ]; rfl
      case hQ40 => exact fun _ _ _ h => h
      case hN40 => rfl
      case hw40 => rfl
      case hy40 => intro W hSw; have z0 := pw_cell_below (show Below _ _ W from hSw) g0; have z1 := pw_cell_below (show Below _ _ W from hSw) f0; have z2 := pw_cell_below (show Below _ _ W from hSw) g2; go_simp; (try with_reducible rfl)
      simp only [Act.put, List.setIfInBounds_toArray, List.set_cons_zero, List.set_cons_succ]
      refine wpAnyH_ready (rs := [17]) (by kernel_rfl) (by simp) ?_
      refine AllReadyH.cons (o := ?oi41) ?hi41 (fun K hK => ?step41) AllReadyH.nil
      case hi41 => simp only [List.getElem?_toArray, List.getElem?_cons_zero, List.getElem?_cons_succ]; rfl
      refine call_ (N := some 38) p1.fn #[p1.pay, .iface q1.ty q1.pay, typV] (by rfl) rfl (by go_simp) ?_
      refine (HC1.out _).mono ?_
      rintro e v17 ⟨rfl, hb⟩
      refine ⟨_, rfl, ?_⟩
      refine hK.out _ _ (below_step hHeld hb) (fun hHeld => ?_)
      clear hK K hb
      simp only [Act.put, List.setIfInBounds_toArray, List.set_cons_zero, List.set_cons_succ]
      refine take_ (oi := ?oi42) (i := 18) (N := some 20) (v := ?v42) ?hi42 (by kernel_rfl) (by kernel_rfl) (by kernel_rfl) ?hQ42 ?hN42 (Or.inl ⟨?hw42, ?hy42⟩) hHeld ?rest42
      case hi42 => simp only [List.getElem?_toArray, List.getElem?_cons_zero, List.getElem?_cons_succ]; rfl
      case hQ42 => exact fun _ _ _ h => h
      case hN42 => rfl
      case hw42 => rfl
      case hy42 => intro W hSw; have z0 := pw_cell_below (show Below _ _ W from hSw) g0; have z1 := pw_cell_below (show Below _ _ W from hSw) f0; have z2 := pw_cell_below (show Below _ _ W from hSw) g2; go_simp; (try with_reducible rfl)
      simp only [Act.put, List.setIfInBounds_toArray, List.set_cons_zero, List.set_cons_succ]
      refine take_ (oi := ?oi43) (i := 19) (N := some 39) (v := ?v43) ?hi43 (by kernel_rfl) (by kernel_rfl) (by kernel_rfl) ?hQ43 ?hN43 (Or.inl ⟨?hw43, ?hy43⟩) hHeld ?rest43
      case hi43 => simp only [List.getElem?_toArray, List.getElem?_cons_zero, List.getElem?_cons_succ]; rfl
      case hQ43 => exact fun _ _ _ h => h
      case hN43 => rfl
      case hw43 => rfl
      case hy43 => intro W hSw; have z0 := pw_cell_below (show Below _ _ W from hSw) g0; have z1 := pw_cell_below (show Below _ _ W from hSw) f0; have z2 := pw_cell_below (show Below _ _ W from hSw) g2; go_simp; (try with_reducible rfl)
      simp only [Act.put, List.setIfInBounds_toArray, List.set_cons_zero, List.set_cons_succ]
      refine take_ (oi := ?oi44) (i := 20) (N := some 40) (v := ?v44) ?hi44 (by kernel_rfl) (by kernel_rfl) (by kernel_rfl) ?hQ44 ?hN44 (Or.inl ⟨?hw44, ?hy44⟩) hHeld ?rest44
      case hi44 => simp only [List.getElem?_toArray, List.getElem?_cons_zero, List.getElem?_cons_succ]; rfl
      case hQ44 => exact fun _ _ _ h => h
      case hN44 => rfl
      case hw44 => rfl
      case hy44 => intro W hSw; have z0 := pw_cell_below (show Below _ _ W from hSw) g0; have z1 := pw_cell_below (show Below _ _ W from hSw) f0; have z2 := pw_cell_below (show Below _ _ W from hSw) g2; go_simp; (try with_reducible rfl)
      simp only [Act.put, List.setIfInBounds_toArray, List.set_cons_zero, List.set_cons_succ]
      refine take_ (oi := ?oi45) (i := 21) (N := some 7) (v := ?v45) ?hi45 (by kernel_rfl) (by kernel_rfl) (by kernel_rfl) ?hQ45 ?hN45 (Or.inl ⟨?hw45, ?hy45⟩) hHeld ?rest45
      case hi45 => simp only [List.getElem?_toArray, List.getElem?_cons_zero, List.getElem?_cons_succ]; rfl
      case hQ45 => exact fun _ _ _ h => h
      case hN45 => rfl
      case hw45 => rfl
      case hy45 => intro W hSw; have z0 := pw_cell_below (show Below _ _ W from hSw) g0; have z1 := pw_cell_below (show Below _ _ W from hSw) f0; have z2 := pw_cell_below (show Below _ _ W from hSw) g2; go_simp; (try with_reducible rfl)
      simp only [Act.put, List.setIfInBounds_toArray, List.set_cons_zero, List.set_cons_succ]
      refine take_ (oi := ?oi46) (i := 22) (N := some 8) (v := ?v46) ?hi46 (by kernel_rfl) (by kernel_rfl) (by kernel_rfl) ?hQ46 ?hN46 (Or.inl ⟨?hw46, ?hy46⟩) hHeld ?rest46
      case hi46 => simp only [List.getElem?_toArray, List.getElem?_cons_zero, List.getElem?_cons_succ]; rfl
      case hQ46 => exact fun _ _ _ h => h
      case hN46 => rfl
      case hw46 => rfl
      case hy46 => intro W hSw; have z0 := pw_cell_below (show Below _ _ W from hSw) g0; have z1 := pw_cell_below (show Below _ _ W from hSw) f0; have z2 := pw_cell_below (show Below _ _ W from hSw) g2; go_simp; (try with_reducible rfl)
      simp only [Act.put, List.setIfInBounds_toArray, List.set_cons_zero, List.set_cons_succ]
      refine wpAnyH_done (by kernel_rfl) ?_ _
      refine NoPanic.normal ?_
      have HV : Aside0 (Below w.heap.size w v17) := ⟨HW.out.trans (hHeld.mono HW.out.size)⟩
      have G1 := pw_cell_below hHeld g1
      have F1 := pw_cell_below hHeld f1
      have G2 := pw_cell_below hHeld g2
      clear hHeld g0 g1 g2 f0 f1 f2 HW
      generalize v17 = W6 at *
      by_cases hz1 : z1 = 0
      · go_wp2
        refine wp_region_noPanic ?_
        refine wp_region_held_drew (S := fun W => Below W6.heap.size W6 W) (by kernel_rfl) ?_ (fun hHeld => ?_)
        · exact below_drew (Below.refl _ _)
        refine take_ (oi := ?oi1) (i := 0) (N := some 50) (v := ?v1) ?hi1 (by kernel_rfl) (by kernel_rfl) (by kernel_rfl) ?hQ1 ?hN1 (Or.inl ⟨?hw1, ?hy1⟩) hHeld ?rest1
        case hi1 => simp only [List.getElem?_toArray, List.getElem?_cons_zero, List.getElem?_cons_succ]; rfl
        case hQ1 => exact fun _ _ _ h => h
        case hN1 => rfl
        case hw1 => rfl
        case hy1 => intro W hSw; have z0 := pw_cell_below (show Below _ _ W from hSw) G1; have z1 := pw_cell_below (show Below _ _ W from hSw) F1; have z2 := pw_cell_below (show Below _ _ W from hSw) G2; go_simp; (try with_reducible rfl)
        simp only [Act.put, List.setIfInBounds_toArray, List.set_cons_zero, List.set_cons_succ]
        refine take_ (oi := ?oi2) (i := 1) (N := some 51) (v := ?v2) ?hi2 (by kernel_rfl) (by kernel_rfl) (by kernel_rfl) ?hQ2 ?hN2 (Or.inl ⟨?hw2, ?hy2⟩) hHeld ?rest2
        case hi2 => simp only [List.getElem?_toArray, List.getElem?_cons_zero, List.getElem?_cons_succ]; rfl
        case hQ2 => exact fun _ _ _ h => h
        case hN2 => rfl
        case hw2 => rfl
        case hy2 => intro W hSw; have z0 := pw_cell_below (show Below _ _ W from hSw) G1; have z1 := pw_cell_below (show Below _ _ W from hSw) F1; have z2 := pw_cell_below (show Below _ _ W from hSw) G2; go_simp; (try with_reducible rfl)
        simp only [Act.put, List.setIfInBounds_toArray, List.set_cons_zero, List.set_cons_succ]
        refine take_ (oi := ?oi3) (i := 2) (N := some 52) (v := ?v3) ?hi3 (by kernel_rfl) (by kernel_rfl) (by kernel_rfl) ?hQ3 ?hN3 (Or.inl ⟨?hw3, ?hy3⟩) hHeld ?rest3
        case hi3 => simp only [List.getElem?_toArray, List.getElem?_cons_zero, List.getElem?_cons_succ]; rfl
        case hQ3 => exact fun _ _ _ h => h
        case hN3 => rfl
        case hw3 => rfl
        case hy3 => intro W hSw; have z0 := pw_cell_below (show Below _ _ W from hSw) G1; have z1 := pw_cell_below (show Below _ _ W from hSw) F1; have z2 := pw_cell_below (show Below _ _ W from hSw) G2; go_simp; (try with_reducible rfl)
        simp only [Act.put, List.setIfInBounds_toArray, List.set_cons_zero, List.set_cons_succ]
        refine take_ (oi := ?oi4) (i := 3) (N := some 53) (v := ?v4) ?hi4 (by kernel_rfl) (by kernel_rfl) (by kernel_rfl) ?hQ4 ?hN4 (Or.inl ⟨?hw4, ?hy4⟩) hHeld ?rest4
        case hi4 => simp only [List.getElem?_toArray, List.getElem?_cons_zero, List.getElem?_cons_succ]; rfl
        case hQ4 => exact fun _ _ _ h => h
        case hN4 => rfl
        case hw4 => rfl
        case hy4 => intro W hSw; have z0 := pw_cell_below (show Below _ _ W from hSw) G1; have z1 := pw_cell_below (show Below _ _ W from hSw) F1; have z2 := pw_cell_below (show Below _ _ W from hSw) G2; go_simp; (try with_reducible rfl)
        simp only [Act.put, List.setIfInBounds_toArray, List.set_cons_zero, List.set_cons_succ]
        refine take_ (oi := ?oi5) (i := 4) (N := some 54) (v := ?v5) ?hi5 (by kernel_rfl) (by kernel_rfl) (by kernel_rfl) ?hQ5 ?hN5 (Or.inl ⟨?hw5, ?hy5⟩) hHeld ?rest5
        case hi5 => simp only [List.getElem?_toArray, List.getElem?_cons_zero, List.getElem?_cons_succ]; rfl
        case hQ5 => exact fun _ _ _ h => h
        case hN5 => rfl
        case hw5 => rfl
        case hy5 => intro W hSw; have z0 := pw_cell_below (show Below _ _ W from hSw) G1; have z1 := pw_cell_below (show Below _ _ W from hSw) F1; have z2 := pw_cell_below (show Below _ _ W from hSw) G2; go_simp; (try with_reducible rfl)
        simp only [Act.put, List.setIfInBounds_toArray, List.set_cons_zero, List.set_cons_succ]
        refine take_ (oi := ?oi6) (i := 5) (N := some 55) (v := ?v6) ?hi6 (by kernel_rfl) (by kernel_rfl) (by kernel_rfl) ?hQ6 ?hN6 (Or.inl ⟨?hw6, ?hy6⟩) hHeld ?rest6
        case hi6 => simp only [List.getElem?_toArray, List.getElem?_cons_zero, List.getElem?_cons_succ]; rfl
        case hQ6 => exact fun _ _ _ h => h
        case hN6 => rfl
        case hw6 => rfl
        case hy6 => intro W hSw; have z0 := pw_cell_below (show Below _ _ W from hSw) G1; have z1 := pw_cell_below (show Below _ _ W from hSw) F1; have z2 := pw_cell_below (show Below _ _ W from hSw) G2; go_simp; (try with_reducible rfl)
        simp only [Act.put, List.setIfInBounds_toArray, List.set_cons_zero, List.set_cons_succ]
        refine take_ (oi := ?oi7) (i := 6) (N := some 56) (v := ?v7) ?hi7 (by kernel_rfl) (by kernel_rfl) (by kernel_rfl) ?hQ7 ?hN7 (Or.inl ⟨?hw7, ?hy7⟩) hHeld ?rest7
        case hi7 => simp only [List.getElem?_toArray, List.getElem?_cons_zero, List.getElem?_cons_succ]; rfl
        case hQ7 => exact fun _ _ _ h => h
        case hN7 => rfl
        case hw7 => rfl
        case hy7 => intro W hSw; have z0 := pw_cell_below (show Below _ _ W from hSw) G1; have z1 := pw_cell_below (show Below _ _ W from hSw) F1; have z2 := pw_cell_below (show Below _ _ W from hSw) G2; go_simp; (try with_reducible rfl)
        simp only [Act.put, List.setIfInBounds_toArray, List.set_cons_zero, List.set_cons_succ]
        refine take_ (oi := ?oi8) (i := 7) (N := some 57) (v := ?v8) ?hi8 (by kernel_rfl) (by kernel_rfl) (by kernel_rfl) ?hQ8 ?hN8 (Or.inl ⟨?hw8, ?hy8⟩) hHeld ?rest8
        case hi8 => simp only [List.getElem?_toArray, List.getElem?_cons_zero, List.getElem?_cons_succ]; rfl
        case hQ8 => exact fun _ _ _ h => h
        case hN8 => rfl
        case hw8 => rfl
        case hy8 => intro W hSw; have z0 := pw_cell_below (show Below _ _ W from hSw) G1; have z1 := pw_cell_below (show Below _ _ W from hSw) F1; have z2 := pw_cell_below (show Below _ _ W from hSw) G2; go_simp; (try with_reducible rfl)
        simp only [Act.put, List.setIfInBounds_toArray, List.set_cons_zero, List.set_cons_succ]
        refine take_ (oi := ?oi9) (i := 8) (N := some 58) (v := ?v9) ?hi9 (by kernel_rfl) (by kernel_rfl) (by kernel_rfl) ?hQ9 ?hN9 (Or.inl ⟨?hw9, ?hy9⟩) hHeld ?rest9
        case hi9 => simp only [List.getElem?_toArray, List.getElem?_cons_zero, List.getElem?_cons_succ]; rfl
        case hQ9 => exact fun _ _ _ h => h
        case hN9 => rfl
        case hw9 => rfl
        case hy9 => intro W hSw; have z0 := pw_cell_below (show Below _ _ W from hSw) G1; have z1 := pw_cell_below (show Below _ _ W from hSw) F1; have z2 := pw_cell_below (show Below _ _ W from hSw) G2; go_simp; (try with_reducible rfl)
        simp only [Act.put, List.setIfInBounds_toArray, List.set_cons_zero, List.set_cons_succ]
        refine take_ (oi := ?oi10) (i := 9) (N := some 59) (v := ?v10) ?hi10 (by kernel_rfl) (by kernel_rfl) (by kernel_rfl) ?hQ10 ?hN10 (Or.inl ⟨?hw10, ?hy10⟩) hHeld ?rest10
        case hi10 => simp only [List.getElem?_toArray, List.getElem?_cons_zero, List.getElem?_cons_succ]; rfl
        case hQ10 => exact fun _ _ _ h => h
        case hN10 => rfl
        case hw10 => rfl
        case hy10 => intro W hSw; have z0 := pw_cell_below (show Below _ _ W from hSw) G1; have z1 := pw_cell_below (show Below _ _ W from hSw) F1; have z2 := pw_cell_below (show Below _ _ W from hSw) G2; go_simp; (try with_reducible rfl)
        simp only [Act.put, List.setIfInBounds_toArray, List.set_cons_zero, List.set_cons_succ]
        refine take_ (oi := ?oi11) (i := 10) (N := some 60) (v := ?v11) ?hi11 (by kernel_rfl) (by kernel_rfl) (by kernel_rfl) ?hQ11 ?hN11 (Or.inl ⟨?hw11, ?hy11⟩) hHeld ?rest11
        case hi11 => simp only [List.getElem?_toArray, List.getElem?_cons_zero, List.getElem?_cons_succ]; rfl
        case hQ11 => exact fun _ _ _ h => h
        case hN11 => rfl
        case hw11 => rfl
        case hy11 => intro W hSw; have z0 := pw_cell_below (show Below _ _ W from hSw) G1; have z1 := pw_cell_below (show Below _ _ W from hSw) F1; have z2 := pw_cell_below (show Below _ _ W from hSw) G2; go_simp; (try with_reducible rfl)
        simp only [Act.put, List.setIfInBounds_toArray, List.set_cons_zero, List.set_cons_succ]
        refine take_ (oi := ?oi12) (i := 11) (N := some 61) (v := ?v12) ?hi12 (by kernel_rfl) (by kernel_rfl) (by kernel_rfl) ?hQ12 ?hN12 (Or.inl ⟨?hw12, ?hy12⟩) hHeld ?rest12
        case hi12 => simp only [List.getElem?_toArray, List.getElem?_cons_zero, List.getElem?_cons_succ]; rfl
        case hQ12 => exact fun _ _ _ h => h
        case hN12 => rfl
        case hw12 => rfl
        case hy12 => intro W hSw; have z0 := pw_cell_below (show Below _ _ W from hSw) G1; have z1 := pw_cell_below (show Below _ _ W from hSw) F1; have z2 := pw_cell_below (show Below _ _ W from hSw) G2; go_simp; (try with_reducible rfl)
        simp only [Act.put, List.setIfInBounds_toArray, List.set_cons_zero, List.set_cons_succ]
        refine take_ (oi := ?oi13) (i := 12) (N := some 62) (v := ?v13) ?hi13 (by kernel_rfl) (by kernel_rfl) (by kernel_rfl) ?hQ13 ?hN13 (Or.inl ⟨?hw13, ?hy13⟩) hHeld ?rest13
        case hi13 => simp only [List.getElem?_toArray, List.getElem?_cons_zero, List.getElem?_cons_succ]; rfl
        case hQ13 => exact fun _ _ _ h => h
        case hN13 => rfl
        case hw13 => rfl
        case hy13 => intro W hSw; have z0 := pw_cell_below (show Below _ _ W from hSw) G1; have z1 := pw_cell_below (show Below _ _ W from hSw) F1; have z2 := pw_cell_below (show Below _ _ W from hSw) G2; go_simp; (try with_reducible rfl)
        simp only [Act.put, List.setIfInBounds_toArray, List.set_cons_zero, List.set_cons_succ]
        refine take_ (oi := ?oi14) (i := 13) (N := some 63) (v := ?v14) ?hi14 (by kernel_rfl) (by kernel_rfl) (by kernel_rfl) ?hQ14 ?hN14 (Or.inl ⟨?hw14, ?hy14⟩) hHeld ?rest14
        case hi14 => simp only [List.getElem?_toArray, List.getElem?_cons_zero, List.getElem?_cons_succ]; rfl
        case hQ14 => exact fun _ _ _ h => h
        case hN14 => rfl
        case hw14 => rfl
        case hy14 => intro W hSw; have z0 := pw_cell_below (show Below _ _ W from hSw) G1; have z1 := pw_cell_below (show Below _ _ W from hSw) F1; have z2 := pw_cell_below (show Below _ _ W from hSw) G2; go_simp; (try with_reducible rfl)
        simp only [Act.put, List.setIfInBounds_toArray, List.set_cons_zero, List.set_cons_succ]
        refine take_ (oi := ?oi15) (i := 14) (N := some 64) (v := ?v15) ?hi15 (by kernel_rfl) (by kernel_rfl) (by kernel_rfl) ?hQ15 ?hN15 (Or.inl ⟨?hw15, ?hy15⟩) hHeld ?rest15
        case hi15 => simp only [List.getElem?_toArray, List.getElem?_cons_zero, List.getElem?_cons_succ]; rfl
        case hQ15 => exact fun _ _ _ h => h
        case hN15 => rfl
        case hw15 => rfl
        case hy15 => intro W hSw; have z0 := pw_cell_below (show Below _ _ W from hSw) G1; have z1 := pw_cell_below (show Below _ _ W from hSw) F1; have z2 := pw_cell_below (show Below _ _ W from hSw) G2; go_simp; (try with_reducible rfl)
        simp only [Act.put, List.setIfInBounds_toArray, List.set_cons_zero, List.set_cons_succ]
        refine take_ (oi := ?oi16) (i := 15) (N := some 65) (v := ?v16) ?hi16 (by kernel_rfl) (by kernel_rfl) (by kernel_rfl) ?hQ16 ?hN16 (Or.inl ⟨?hw16, ?hy16⟩) hHeld ?rest16
        case hi16 => simp only [List.getElem?_toArray, List.getElem?_cons_zero, List.getElem?_cons_succ]; rfl
        case hQ16 => exact fun _ _ _ h => h
        case hN16 => rfl
        case hw16 => rfl
        case hy16 => intro W hSw; have z0 := pw_cell_below (show Below _ _ W from hSw) G1; have z1 := pw_cell_below (show Below _ _ W from hSw) F1; have z2 := pw_cell_below (show Below _ _ W from hSw) G2; go_simp; (try with_reducible rfl)
        simp only [Act.put, List.setIfInBounds_toArray, List.set_cons_zero, List.set_cons_succ]
        refine take_ (oi := ?oi17) (i := 16) (N := some 66) (v := ?v17) ?hi17 (by kernel_rfl) (by kernel_rfl) (by kernel_rfl) ?hQ17 ?hN17 (Or.inl ⟨?hw17, ?hy17⟩) hHeld ?rest17
        case hi17 => simp only [List.getElem?_toArray, List.getElem?_cons_zero, List.getElem?_cons_succ]; rfl
        case hQ17 => exact fun _ _ _ h => h
        case hN17 => rfl
        case hw17 => rfl
        case hy17 => intro W hSw; have z0 := pw_cell_below (show Below _ _ W from hSw) G1; have z1 := pw_cell_below (show Below _ _ W from hSw) F1; have z2 := pw_cell_below (show Below _ _ W from hSw) G2; go_simp; (try with_reducible rfl)
        simp only [Act.put, List.setIfInBounds_toArray, List.set_cons_zero, List.set_cons_succ]
        refine wpAnyH_ready (rs := [17]) (by kernel_rfl) (by simp) ?_
        refine AllReadyH.cons (o := ?oi18) ?hi18 (fun K hK => ?step18) AllReadyH.nil
        case hi18 => simp only [List.getElem?_toArray, List.getElem?_cons_zero, List.getElem?_cons_succ]; rfl
        refine call_ (N := some 67) p2.fn #[p2.pay, .iface q2.ty q2.pay, typV] (by rfl) rfl (by go_simp) ?_
        refine (HC2.out _).mono ?_
        rintro e v17 ⟨rfl, hb⟩
        refine ⟨_, rfl, ?_⟩
        refine hK.out _ _ (below_step hHeld hb) (fun hHeld => ?_)
        clear hK K hb
        simp only [Act.put, List.setIfInBounds_toArray, List.set_cons_zero, List.set_cons_succ]
        refine take_ (oi := ?oi19) (i := 18) (N := some 49) (v := ?v19) ?hi19 (by kernel_rfl) (by kernel_rfl) (by kernel_rfl) ?hQ19 ?hN19 (Or.inl ⟨?hw19, ?hy19⟩) hHeld ?rest19
        case hi19 => simp only [List.getElem?_toArray, List.getElem?_cons_zero, List.getElem?_cons_succ]; rfl
        case hQ19 => exact fun _ _ _ h => h
        case hN19 => rfl
        case hw19 => rfl
        case hy19 => intro W hSw; have z0 := pw_cell_below (show Below _ _ W from hSw) G1; have z1 := pw_cell_below (show Below _ _ W from hSw) F1; have z2 := pw_cell_below (show Below _ _ W from hSw) G2; go_simp; (try with_reducible rfl)
        simp only [Act.put, List.setIfInBounds_toArray, List.set_cons_zero, List.set_cons_succ]
        refine take_ (oi := ?oi20) (i := 19) (N := some 68) (v := ?v20) ?hi20 (by kernel_rfl) (by kernel_rfl) (by kernel_rfl) ?hQ20 ?hN20 (Or.inl ⟨?hw20, ?hy20⟩) hHeld ?rest20
        case hi20 => simp only [List.getElem?_toArray, List.getElem?_cons_zero, List.getElem?_cons_succ]; rfl
        case hQ20 => exact fun _ _ _ h => h
        case hN20 => rfl
        case hw20 => rfl
        case hy20 => intro W hSw; have z0 := pw_cell_below (show Below _ _ W from hSw) G1; have z1 := pw_cell_below (show Below _ _ W from hSw) F1; have z2 := pw_cell_below (show Below _ _ W from hSw) G2; go_simp; (try with_reducible rfl)
        simp only [Act.put, List.setIfInBounds_toArray, List.set_cons_zero, List.set_cons_succ]
        refine take_ (oi := ?oi21) (i := 20) (N := some 69) (v := ?v21) ?hi21 (by kernel_rfl) (by kernel_rfl) (by kernel_rfl) ?hQ21 ?hN21 (Or.inl ⟨?hw21, ?hy21⟩) hHeld ?rest21
        case hi21 => simp only [List.getElem?_toArray, List.getElem?_cons_zero, List.getElem?_cons_succ]; rfl
        case hQ21 => exact fun _ _ _ h => h
        case hN21 => rfl
        case hw21 => rfl
        case hy21 => intro W hSw; have z0 := pw_cell_below (show Below _ _ W from hSw) G1; have z1 := pw_cell_below (show Below _ _ W from hSw) F1; have z2 := pw_cell_below (show Below _ _ W from hSw) G2; go_simp; (try with_reducible rfl)
        simp only [Act.put, List.setIfInBounds_toArray, List.set_cons_zero, List.set_cons_succ]
        refine take_ (oi := ?oi22) (i := 21) (N := some 7) (v := ?v22) ?hi22 (by kernel_rfl) (by kernel_rfl) (by kernel_rfl) ?hQ22 ?hN22 (Or.inl ⟨?hw22, ?hy22⟩) hHeld ?rest22
        case hi22 => simp only [List.getElem?_toArray, List.getElem?_cons_zero, List.getElem?_cons_succ]; rfl
        case hQ22 => exact fun _ _ _ h => h
        case hN22 => rfl
        case hw22 => rfl
        case hy22 => intro W hSw; have z0 := pw_cell_below (show Below _ _ W from hSw) G1; have z1 := pw_cell_below (show Below _ _ W from hSw) F1; have z2 := pw_cell_below (show Below _ _ W from hSw) G2; go_simp; (try with_reducible rfl)
        simp only [Act.put, List.setIfInBounds_toArray, List.set_cons_zero, List.set_cons_succ]
        refine take_ (oi := ?oi23) (i := 22) (N := some 8) (v := ?v23) ?hi23 (by kernel_rfl) (by kernel_rfl) (by kernel_rfl) ?hQ23 ?hN23 (Or.inl ⟨?hw23, ?hy23⟩) hHeld ?rest23
        case hi23 => simp only [List.getElem?_toArray, List.getElem?_cons_zero, List.getElem?_cons_succ]; rfl
        case hQ23 => exact fun _ _ _ h => h
        case hN23 => rfl
        case hw23 => rfl
        case hy23 => intro W hSw; have z0 := pw_cell_below (show Below _ _ W from hSw) G1; have z1 := pw_cell_below (show Below _ _ W from hSw) F1; have z2 := pw_cell_below (show Below _ _ W from hSw) G2; go_simp; (try with_reducible rfl)
        simp only [Act.put, List.setIfInBounds_toArray, List.set_cons_zero, List.set_cons_succ]
        refine wpAnyH_done (by kernel_rfl) ?_ _
        refine NoPanic.normal ?_
        have HV2 : Aside0 (Below w.heap.size w v17) := ⟨HV.out.trans (hHeld.mono HV.out.size)⟩
        clear hHeld G1 F1 G2 HV
        by_cases hz2 : z2 = 0
        · go_wp2
          go_roundw
          case rel => exact ⟨k + 1, by go_num, by omega, ⟨by rw [HT1.out, if_neg (by simpa using hz1), if_neg (by simpa using hz2)]⟩, HV2⟩
          case measure => simp [intOf]; omega
        · go_wp2
          go_ret2
          exact ⟨by rw [HT1.out, if_neg (by simpa using hz1), if_pos hz2] <;> rfl, HV2.out⟩
      · go_wp2
        go_ret2
        exact ⟨by rw [HT1.out, if_pos hz1] <;> rfl, HV.out⟩
    · obtain rfl : k = n := by omega
      have hr : cmpL a b = 0 := by have h := HT.out; rwa [List.drop_eq_nil_of_le (by rw [La.out]; exact Nat.le_refl _)] at h
      have HRes := Aside0.mk hr
      clear hr
      go_wp2
      go_ret2
      exact ⟨by rw [HRes.out] <;> rfl, HW.out⟩
theorem rrCompare_ok (A0 : Option Addr) (c0 : Nat) (l0 : List S44) (A1 : Option Addr) (c1 : Nat) (l1 : List S44) (hl : l0.length ≤ 1000) (hlen : l0.length = l1.length) (w : World) (hr0 : Kd.C k44 w A0 l0.length l0) (hr1 : Kd.C k44 w A1 l1.length l1) :
  Calls Tryd.prog 20 #[.slice A0 l0.length c0, .slice A1 l1.length c1] w fun e w' => e = .returned (.tuple #[.int .i64 (cmpL (l0.map toC) (l1.map toC)), .bool true]) ∧ Below w.heap.size w w' := by
  have la : (l0.map toC).length = l0.length := List.length_map ..
  have lb : (l1.map toC).length = l0.length := by rw [List.length_map, hlen]
  have EA := Aside0.mk (fun W (hb : Below w.heap.size w W) => exprs_ok A0 c0 l0 hl W (Kd.C_below hr0 hb))
  have EB := Aside0.mk (fun W (hb : Below w.heap.size w W) => exprs_ok A1 c1 l1 (by omega) W (Kd.C_below hr1 hb))
  rw [← hlen] at EB
  have M := Aside0.mk (fun A2 c2 A3 c3 W h2 h3 => rrCmp_ok l0.length A2 c2 (l0.map toC) A3 c3 (l1.map toC) hl la lb W h2 h3)
  generalize cmpL (l0.map toC) (l1.map toC) = r1 at M ⊢
  have La := Aside0.mk la
  have Lb := Aside0.mk lb
  rw [← hlen]
  generalize l0.map toC = a at *
  generalize l1.map toC = b at *
  generalize l0.length = n at *
  clear hr0 hr1 la lb hlen
  go_enter_defers Tryd.func20, Tryd.ntmps20
  go_wp2_with fail
  refine (EA.out _ (by repeat (first | (with_reducible exact Below.refl _ _) | (with_reducible apply below_alloc)))).mono ?_
  rintro e wa ⟨v1, rfl, hv1, hb1⟩
  have na : wa.cell? ⟨w.heap.size, 0, none⟩ = some (.bool false) := pw_cell_below hb1 (by simp [go_sem])
  have fa : wa.frozen? ⟨w.heap.size, 0, none⟩ = false := keep_frozen (v := .bool false) hb1 (by simp [go_sem]) (by simp [go_sem])
  have HB1 : Aside0 (Below w.heap.size w wa) := ⟨below_step (by repeat (first | (with_reducible exact Below.refl _ _) | (with_reducible apply below_alloc))) hb1⟩
  obtain ⟨A2, c2, rfl⟩ := Kd.R_slice hv1
  rw [La.out] at hv1
  have HV1 := Aside0.mk hv1
  clear hv1 hb1
  rw [La.out]
  go_wp2_with fail
  refine (EB.out _ HB1.out).mono ?_
  rintro e wb ⟨v2, rfl, hv2, hb2⟩
  have nb : wb.cell? ⟨w.heap.size, 0, none⟩ = some (.bool false) := pw_cell_below hb2 na
  have fb : wb.frozen? ⟨w.heap.size, 0, none⟩ = false := keep_frozen (v := .bool false) hb2 na fa
  have HB2 := Aside0.mk (below_step HB1.out hb2)
  obtain ⟨A3, c3, rfl⟩ := Kd.R_slice hv2
  rw [Lb.out] at hv2
  have HC1 := Aside0.mk (Kd.C_below (show Kd.C kE wa A2 n a by have h := (Kd.R_reads' HV1.out).2.2; rwa [La.out] at h) hb2)
  have HC2 := Aside0.mk (show Kd.C kE wb A3 n b by have h := (Kd.R_reads' hv2).2.2; rwa [Lb.out] at h)
  clear hv2 hb2 na fa HB1 HV1
  rw [Lb.out]
  go_wp2_with fail
  refine (M.out _ _ _ _ _ HC1.out HC2.out).mono ?_
  rintro e wc ⟨rfl, hb3⟩
  have nc : wc.cell? ⟨w.heap.size, 0, none⟩ = some (.bool false) := pw_cell_below hb3 nb
  have fc : wc.frozen? ⟨w.heap.size, 0, none⟩ = false := keep_frozen (v := .bool false) hb3 nb fb
  have HB3 := Aside0.mk (below_step HB2.out hb3)
  clear nb fb hb3 HB2 HC1 HC2
  go_wp2
  go_region
  all_goals go_wp2
  all_goals exact ends_caught (v := .tuple #[.int .i64 r1, .bool true]) (by simp [results, Tryd.results20, go_sem, nc]) ⟨rfl, below_drew (HB3.out.setCell (by simp) _)⟩
end Go.Proofs.YtlcoodjkolponaaDoor.PRR
