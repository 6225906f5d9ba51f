/-
  Contracts of rangeColumnExprSlice's methods Less and Swap: ranges compared by where they begin, then end; two of them change places. Condition: the ranges have values.
-/
import Derived.Test.YtlcoodjkolponaaDoorRTs
import Derived.Laws.CopyOwn
import Derived.Sort.LotA
namespace Go.Proofs.YtlcoodjkolponaaDoor.PRR
open Go.RowKit Go.Proofs.YtlcoodjkolponaaDoorW.PrintWords Go.Proofs.YtlcoodjkolponaaDoorW.PrintLast Go.Proofs.YtlcoodjkolponaaDoorW.PrintMore
open Go.Sort (swp swp_get swp_size)
open Go.Proofs.YtlcoodjkolponaaDoor.PRG (C cmpC typV cmp_ok)
set_option linter.unusedVariables false
set_option linter.unusedSimpArgs false
set_option maxRecDepth 100000
set_option maxHeartbeats 4000000

instance : Inhabited S44 := ⟨z44⟩
/-- The cells of a row of ranges. -/
def eS (x : S44) : List Value := eC (toC x)
theorem eS_len (x : S44) : (eS x).length = 3 := rfl
def rowE (l : List S44) : Array Value := (l.flatMap eS).toArray
theorem flat_take : ∀ (l : List S44) (i : Nat), (l.flatMap eS).take (i * 3) = (l.take i).flatMap eS
  | [], i => by simp
  | x :: l, 0 => by simp
  | x :: l, i + 1 => by
    rw [List.flatMap_cons, List.take_succ_cons, List.flatMap_cons, List.take_append, eS_len, List.take_of_length_le (by rw [eS_len]; omega), show (i + 1) * 3 - 3 = i * 3 by omega, flat_take l i]
theorem flat_drop : ∀ (l : List S44) (i : Nat), (l.flatMap eS).drop (i * 3) = (l.drop i).flatMap eS
  | [], i => by simp
  | x :: l, 0 => by simp
  | x :: l, i + 1 => by
    rw [List.flatMap_cons, List.drop_succ_cons, List.drop_append, eS_len, List.drop_eq_nil_of_le (by rw [eS_len]; omega), show (i + 1) * 3 - 3 = i * 3 by omega, flat_drop l i, List.nil_append]
theorem flat_len (l : List S44) : (l.flatMap eS).length = l.length * 3 := by
  induction l with
  | nil => rfl
  | cons x l ih => rw [List.flatMap_cons, List.length_append, ih, eS_len, List.length_cons]; omega
theorem flat_set (l : List S44) (i : Nat) (x : S44) (h : i < l.length) : (l.flatMap eS).take (i * 3) ++ eS x ++ (l.flatMap eS).drop (i * 3 + 3) = (l.set i x).flatMap eS := by
  rw [show i * 3 + 3 = (i + 1) * 3 by omega, flat_take, flat_drop, List.set_eq_take_append_cons_drop, if_pos h, List.flatMap_append, List.flatMap_cons, List.append_assoc]
theorem flat_get (l : List S44) (i u : Nat) (h : i < l.length) (hu : u < 3) : (l.flatMap eS)[i * 3 + u]? = (eS l[i])[u]? := by
  rw [← List.getElem?_drop, flat_drop, List.drop_eq_getElem_cons h, List.flatMap_cons, List.getElem?_append_left (by rw [eS_len]; exact hu)]
theorem row_E {W : World} {g : Nat} {l : List S44} {n : Nat} (hn : l.length = n) (hb : n ≤ 1000) (h : W.heap[g]? = some (.cells (rowE l) 96 (0, 0))) : Kd.C kE W (some ⟨g, 0, none⟩) n (l.map toC) := by
  refine ⟨by rw [List.length_map, hn], by omega, fun _ => ⟨_, rfl, fun j p hj => ?_⟩⟩
  have hjn : j < l.length := by have := (List.getElem?_eq_some_iff.1 hj).1; simpa using this
  rw [List.getElem?_map, List.getElem?_eq_getElem hjn] at hj
  obtain rfl := Option.some.inj hj
  refine ⟨eC (toC l[j]), rfl, rfl, fun k u hk => ?_⟩
  have hk3 : k < 3 := by have := (List.getElem?_eq_some_iff.1 hk).1; simpa [eC] using this
  have e : (Addr.add ⟨g, 0, none⟩ (j * kE.sz + k)) = ⟨g, j * 3 + k, none⟩ := by
    show Addr.add ⟨g, 0, none⟩ (j * 3 + k) = _
    unfold Addr.add; split <;> simp_all
  rw [e, blk_cell h]
  unfold rowE
  rw [List.getElem?_toArray, flat_get l j k hjn hk3]
  exact hk
theorem sz96 (w : World) : (sizeOf 96).run Tryd.prog w = .ok 3 w := by kernel_rfl
theorem run_store3 {W : World} {g : Nat} {l : List S44} (i : Nat) (x : S44) (h : i < l.length) (hr : W.heap[g]? = some (.cells (rowE l) 96 (0, 0))) :
    (Instr.storeAt 96 (.pointer (some ⟨g, i * 3, none⟩)) (.agg #[.iface (toC x).1.ty (toC x).1.pay, .iface (toC x).2.ty (toC x).2.pay, typV])).run Tryd.prog W = .ok () (W.setRow g (rowE (l.set i x))) := by
  have hst := run_storeCells_at Tryd.prog g (i * 3) 96 (eS x) 0 (rowE l) W hr (by unfold rowE; rw [eS_len, List.size_toArray, flat_len]; omega) (fun v hv => by
    simp [eS, eC] at hv
    rcases hv with rfl | rfl | rfl <;> rfl)
  have e : ((rowE l).toList.take (i * 3 + 0) ++ eS x ++ (rowE l).toList.drop (i * 3 + 0 + (eS x).length)).toArray = rowE (l.set i x) := by
    unfold rowE
    rw [eS_len, Nat.add_zero, ← flat_set l i x h]
  rw [e] at hst
  have hst : (storeCells ⟨g, i * 3, none⟩ [.iface (toC x).1.ty (toC x).1.pay, .iface (toC x).2.ty (toC x).2.pay, typV] 0).run Tryd.prog W = .ok () (W.setRow g (rowE (l.set i x))) := hst
  simp [Instr.storeAt, storeVar, Instr.sureAddr, Value.cells, sz96, hst, Result.andThen]
/-- What holds all through the sort. -/
structure Srs (w0 : World) (g rb n : Nat) (d : Array S44) (W : World) : Prop where
  below : Below w0.heap.size w0 W
  row : W.heap[g]? = some (.cells (rowE d.toList) 96 (0, 0))
  box : W.heap[rb]? = some (.cells #[.slice (some ⟨g, 0, none⟩) n n, .nilIface] 141 (0, 0))
  size : d.size = n
  full : ∀ i, i < n → FullS d[i]!
theorem Srs.step {w0 : World} {g rb n : Nat} {d : Array S44} {W W' : World} (h : Srs w0 g rb n d W) (hb : Below W.heap.size W W') : Srs w0 g rb n d W' :=
  ⟨below_step h.below hb, blk_below h.row hb, blk_below h.box hb, h.size, h.full⟩
def ltE (x y : S44) : Bool := ltS [x] [y]
theorem swo_ltE : Go.Sort.SWO ltE := ⟨fun x => swo_ltS.irrefl _, fun x y z => swo_ltS.trans _ _ _, fun x y z => swo_ltS.ntrans _ _ _⟩
theorem ltE_cmp {x y : S44} (X : FullS x) (Y : FullS y) : ltE x y = if cmpC (toC x).1 (toC y).1 ≠ 0 then decide (cmpC (toC x).1 (toC y).1 < 0) else decide (cmpC (toC x).2 (toC y).2 < 0) := by
  unfold ltE ltS keys keys toC
  rw [cmp_sgn _ _ _ _ X.lo Y.lo, cmp_sgn _ _ _ _ X.hi Y.hi]
  show (cmpI [lo x, hi x] [lo y, hi y] == -1) = if sgn (lo x - lo y) ≠ 0 then decide (sgn (lo x - lo y) < 0) else decide (sgn (hi x - hi y) < 0)
  generalize lo x = p
  generalize lo y = q
  generalize hi x = r
  generalize hi y = s
  unfold sgn
  rcases Int.lt_trichotomy p q with k | k | k
  · rw [cmpI_lt k, if_pos (show p - q < 0 by omega)]; rfl
  · subst k
    rw [cmpI_same, if_neg (show ¬ p - p < 0 by omega), if_neg (show ¬ p - p > 0 by omega)]
    rcases Int.lt_trichotomy r s with k | k | k
    · rw [cmpI_lt k, if_pos (show r - s < 0 by omega)]; rfl
    · subst k
      rw [cmpI_same, if_neg (show ¬ r - r < 0 by omega), if_neg (show ¬ r - r > 0 by omega)]; rfl
    · rw [cmpI_gt k, if_neg (show ¬ r - s < 0 by omega), if_pos (show r - s > 0 by omega)]; rfl
  · rw [cmpI_gt k, if_neg (show ¬ p - q < 0 by omega), if_pos (show p - q > 0 by omega)]; rfl
theorem less202_ok {w0 : World} {g rb n : Nat} {d : Array S44} {V : World} (h : Srs w0 g rb n d V) (hn : n ≤ 1000) (i j : Nat) (hi : i < n) (hj : j < n) :
    Calls Tryd.prog 202 #[.pointer (some ⟨rb, 0, none⟩), .int .i64 (i : Int), .int .i64 (j : Int)] V fun e w' => e = .returned (.bool (ltE d[i]! d[j]!)) ∧ Below V.heap.size V w' := by
  have hs := h.size
  have hK := row_E (l := d.toList) (n := n) (by simpa using hs) hn h.row
  have r0 : V.cell? ⟨rb, 0, none⟩ = some (.slice (some ⟨g, 0, none⟩) n n) := by rw [blk_cell h.box]; rfl
  rw [ltE_cmp (h.full i hi) (h.full j hj)]
  generalize (⟨g, 0, none⟩ : Addr) = ad at *
  obtain ⟨ad', e1, g0, g1, g2⟩ := at_E hK i hi (by simp; omega)
  cases e1
  obtain ⟨ad', e1, f0, f1, f2⟩ := at_E hK j hj (by simp; omega)
  cases e1
  rw [List.getElem_map, Array.getElem_toList, ← getElem!_pos d i (by omega)] at g0 g1
  rw [List.getElem_map, Array.getElem_toList, ← getElem!_pos d j (by omega)] at f0 f1
  generalize toC d[i]! = p at *
  generalize toC d[j]! = q at *
  generalize p.1 = p1 at *
  generalize p.2 = p2 at *
  generalize q.1 = q1 at *
  generalize q.2 = q2 at *
  clear h hK hs
  have HC1 := Aside0.mk (cmp_ok p1 q1)
  have HC2 := Aside0.mk (cmp_ok p2 q2)
  generalize cmpC p1 q1 = z1 at *
  generalize cmpC p2 q2 = z2 at *
  go_enter Tryd.func202, Tryd.ntmps202
  go_wp2
  refine wp_region_noPanic ?_
  refine wp_region_held_drew (S := fun W => Below V.heap.size V W) (by kernel_rfl) ?_ (fun hHeld => ?_)
  · exact below_drew (Below.refl _ _)
  refine take_ (oi := ?oi33) (i := 0) (N := some 11) (v := ?v33) ?hi33 (by kernel_rfl) (by kernel_rfl) (by kernel_rfl) ?hQ33 ?hN33 (Or.inl ⟨?hw33, ?hy33⟩) hHeld ?rest33
  case hi33 => simp only [List.getElem?_toArray, List.getElem?_cons_zero, List.getElem?_cons_succ]; rfl
  case hQ33 => exact fun _ _ _ h => h
  case hN33 => rfl
  case hw33 => rfl
  case hy33 => intro W hSw; have z0 := pw_cell_below (show Below _ _ W from hSw) g0; have z1 := pw_cell_below (show Below _ _ W from hSw) f0; have z2 := pw_cell_below (show Below _ _ W from hSw) g2; have z3 := pw_cell_below (show Below _ _ W from hSw) r0; go_simp; (try with_reducible rfl)
  simp only [Act.put, List.setIfInBounds_toArray, List.set_cons_zero, List.set_cons_succ]
  refine take_ (oi := ?oi34) (i := 1) (N := some 12) (v := ?v34) ?hi34 (by kernel_rfl) (by kernel_rfl) (by kernel_rfl) ?hQ34 ?hN34 (Or.inl ⟨?hw34, ?hy34⟩) hHeld ?rest34
  case hi34 => simp only [List.getElem?_toArray, List.getElem?_cons_zero, List.getElem?_cons_succ]; rfl
  case hQ34 => exact fun _ _ _ h => h
  case hN34 => rfl
  case hw34 => rfl
  case hy34 => intro W hSw; have z0 := pw_cell_below (show Below _ _ W from hSw) g0; have z1 := pw_cell_below (show Below _ _ W from hSw) f0; have z2 := pw_cell_below (show Below _ _ W from hSw) g2; have z3 := pw_cell_below (show Below _ _ W from hSw) r0; go_simp; (try with_reducible rfl)
  simp only [Act.put, List.setIfInBounds_toArray, List.set_cons_zero, List.set_cons_succ]
  refine take_ (oi := ?oi35) (i := 2) (N := some 13) (v := ?v35) ?hi35 (by kernel_rfl) (by kernel_rfl) (by kernel_rfl) ?hQ35 ?hN35 (Or.inl ⟨?hw35, ?hy35⟩) hHeld ?rest35
  case hi35 => simp only [List.getElem?_toArray, List.getElem?_cons_zero, List.getElem?_cons_succ]; rfl
  case hQ35 => exact fun _ _ _ h => h
  case hN35 => rfl
  case hw35 => rfl
  case hy35 => intro W hSw; have z0 := pw_cell_below (show Below _ _ W from hSw) g0; have z1 := pw_cell_below (show Below _ _ W from hSw) f0; have z2 := pw_cell_below (show Below _ _ W from hSw) g2; have z3 := pw_cell_below (show Below _ _ W from hSw) r0; go_simp; (try with_reducible rfl)
  simp only [Act.put, List.setIfInBounds_toArray, List.set_cons_zero, List.set_cons_succ]
  refine take_ (oi := ?oi36) (i := 3) (N := some 14) (v := ?v36) ?hi36 (by kernel_rfl) (by kernel_rfl) (by kernel_rfl) ?hQ36 ?hN36 (Or.inl ⟨?hw36, ?hy36⟩) hHeld ?rest36
  case hi36 => simp only [List.getElem?_toArray, List.getElem?_cons_zero, List.getElem?_cons_succ]; rfl
  case hQ36 => exact fun _ _ _ h => h
  case hN36 => rfl
  case hw36 => rfl
  case hy36 => intro W hSw; have z0 := pw_cell_below (show Below _ _ W from hSw) g0; have z1 := pw_cell_below (show Below _ _ W from hSw) f0; have z2 := pw_cell_below (show Below _ _ W from hSw) g2; have z3 := pw_cell_below (show Below _ _ W from hSw) r0; go_simp; (try with_reducible rfl)
  simp only [Act.put, List.setIfInBounds_toArray, List.set_cons_zero, List.set_cons_succ]
  refine take_ (oi := ?oi37) (i := 4) (N := some 15) (v := ?v37) ?hi37 (by kernel_rfl) (by kernel_rfl) (by kernel_rfl) ?hQ37 ?hN37 (Or.inl ⟨?hw37, ?hy37⟩) hHeld ?rest37
  case hi37 => simp only [List.getElem?_toArray, List.getElem?_cons_zero, List.getElem?_cons_succ]; rfl
  case hQ37 => exact fun _ _ _ h => h
  case hN37 => rfl
  case hw37 => rfl
  case hy37 => intro W hSw; have z0 := pw_cell_below (show Below _ _ W from hSw) g0; have z1 := pw_cell_below (show Below _ _ W from hSw) f0; have z2 := pw_cell_below (show Below _ _ W from hSw) g2; have z3 := pw_cell_below (show Below _ _ W from hSw) r0; go_simp; (try with_reducible rfl)
  simp only [Act.put, List.setIfInBounds_toArray, List.set_cons_zero, List.set_cons_succ]
  refine take_ (oi := ?oi38) (i := 5) (N := some 16) (v := ?v38) ?hi38 (by kernel_rfl) (by kernel_rfl) (by kernel_rfl) ?hQ38 ?hN38 (Or.inl ⟨?hw38, ?hy38⟩) hHeld ?rest38
  case hi38 => simp only [List.getElem?_toArray, List.getElem?_cons_zero, List.getElem?_cons_succ]; rfl
  case hQ38 => exact fun _ _ _ h => h
  case hN38 => rfl
  case hw38 => rfl
  case hy38 => intro W hSw; have z0 := pw_cell_below (show Below _ _ W from hSw) g0; have z1 := pw_cell_below (show Below _ _ W from hSw) f0; have z2 := pw_cell_below (show Below _ _ W from hSw) g2; have z3 := pw_cell_below (show Below _ _ W from hSw) r0; go_simp; (try with_reducible rfl)
  simp only [Act.put, List.setIfInBounds_toArray, List.set_cons_zero, List.set_cons_succ]
  refine take_ (oi := ?oi39) (i := 6) (N := some 17) (v := ?v39) ?hi39 (by kernel_rfl) (by kernel_rfl) (by kernel_rfl) ?hQ39 ?hN39 (Or.inl ⟨?hw39, ?hy39⟩) hHeld ?rest39
  case hi39 => simp only [List.getElem?_toArray, List.getElem?_cons_zero, List.getElem?_cons_succ]; rfl
  case hQ39 => exact fun _ _ _ h => h
  case hN39 => rfl
  case hw39 => rfl
  case hy39 => intro W hSw; have z0 := pw_cell_below (show Below _ _ W from hSw) g0; have z1 := pw_cell_below (show Below _ _ W from hSw) f0; have z2 := pw_cell_below (show Below _ _ W from hSw) g2; have z3 := pw_cell_below (show Below _ _ W from hSw) r0; go_simp; (try with_reducible rfl)
  simp only [Act.put, List.setIfInBounds_toArray, List.set_cons_zero, List.set_cons_succ]
  refine take_ (oi := ?oi40) (i := 7) (N := some 18) (v := ?v40) ?hi40 (by kernel_rfl) (by kernel_rfl) (by kernel_rfl) ?hQ40 ?hN40 (Or.inl ⟨?hw40, ?hy40⟩) hHeld ?rest40
  case hi40 => simp only [List.getElem?_toArray, List.getElem?_cons_zero, List.getElem?_cons_succ]; rfl
  case hQ40 => exact fun _ _ _ h => h
  case hN40 => rfl
  case hw40 => rfl
  case hy40 => intro W hSw; have z0 := pw_cell_below (show Below _ _ W from hSw) g0; have z1 := pw_cell_below (show Below _ _ W from hSw) f0; have z2 := pw_cell_below (show Below _ _ W from hSw) g2; have z3 := pw_cell_below (show Below _ _ W from hSw) r0; go_simp; (try with_reducible rfl)
  simp only [Act.put, List.setIfInBounds_toArray, List.set_cons_zero, List.set_cons_succ]
  refine take_ (oi := ?oi41) (i := 8) (N := some 19) (v := ?v41) ?hi41 (by kernel_rfl) (by kernel_rfl) (by kernel_rfl) ?hQ41 ?hN41 (Or.inl ⟨?hw41, ?hy41⟩) hHeld ?rest41
  case hi41 => simp only [List.getElem?_toArray, List.getElem?_cons_zero, List.getElem?_cons_succ]; rfl
  case hQ41 => exact fun _ _ _ h => h
  case hN41 => rfl
  case hw41 => rfl
  case hy41 => intro W hSw; have z0 := pw_cell_below (show Below _ _ W from hSw) g0; have z1 := pw_cell_below (show Below _ _ W from hSw) f0; have z2 := pw_cell_below (show Below _ _ W from hSw) g2; have z3 := pw_cell_below (show Below _ _ W from hSw) r0; go_simp; (try with_reducible rfl)
  simp only [Act.put, List.setIfInBounds_toArray, List.set_cons_zero, List.set_cons_succ]
  refine take_ (oi := ?oi42) (i := 9) (N := some 20) (v := ?v42) ?hi42 (by kernel_rfl) (by kernel_rfl) (by kernel_rfl) ?hQ42 ?hN42 (Or.inl ⟨?hw42, ?hy42⟩) hHeld ?rest42
  case hi42 => simp only [List.getElem?_toArray, List.getElem?_cons_zero, List.getElem?_cons_succ]; rfl
  case hQ42 => exact fun _ _ _ h => h
  case hN42 => rfl
  case hw42 => rfl
  case hy42 => intro W hSw; have z0 := pw_cell_below (show Below _ _ W from hSw) g0; have z1 := pw_cell_below (show Below _ _ W from hSw) f0; have z2 := pw_cell_below (show Below _ _ W from hSw) g2; have z3 := pw_cell_below (show Below _ _ W from hSw) r0; go_simp; (try with_reducible rfl)
  simp only [Act.put, List.setIfInBounds_toArray, List.set_cons_zero, List.set_cons_succ]
  refine take_ (oi := ?oi43) (i := 10) (N := some 21) (v := ?v43) ?hi43 (by kernel_rfl) (by kernel_rfl) (by kernel_rfl) ?hQ43 ?hN43 (Or.inl ⟨?hw43, ?hy43⟩) hHeld ?rest43
  case hi43 => simp only [List.getElem?_toArray, List.getElem?_cons_zero, List.getElem?_cons_succ]; rfl
  case hQ43 => exact fun _ _ _ h => h
  case hN43 => rfl
  case hw43 => rfl
  case hy43 => intro W hSw; have z0 := pw_cell_below (show Below _ _ W from hSw) g0; have z1 := pw_cell_below (show Below _ _ W from hSw) f0; have z2 := pw_cell_below (show Below _ _ W from hSw) g2; have z3 := pw_cell_below (show Below _ _ W from hSw) r0; go_simp; (try with_reducible rfl)
  simp only [Act.put, List.setIfInBounds_toArray, List.set_cons_zero, List.set_cons_succ]
  refine take_ (oi := ?oi44) (i := 11) (N := some 22) (v := ?v44) ?hi44 (by kernel_rfl) (by kernel_rfl) (by kernel_rfl) ?hQ44 ?hN44 (Or.inl ⟨?hw44, ?hy44⟩) hHeld ?rest44
  case hi44 => simp only [List.getElem?_toArray, List.getElem?_cons_zero, List.getElem?_cons_succ]; rfl
  case hQ44 => exact fun _ _ _ h => h
  case hN44 => rfl
  case hw44 => rfl
  case hy44 => intro W hSw; have z0 := pw_cell_below (show Below _ _ W from hSw) g0; have z1 := pw_cell_below (show Below _ _ W from hSw) f0; have z2 := pw_cell_below (show Below _ _ W from hSw) g2; have z3 := pw_cell_below (show Below _ _ W from hSw) r0; go_simp; (try with_reducible rfl)
  simp only [Act.put, List.setIfInBounds_toArray, List.set_cons_zero, List.set_cons_succ]
  refine take_ (oi := ?oi45) (i := 12) (N := some 23) (v := ?v45) ?hi45 (by kernel_rfl) (by kernel_rfl) (by kernel_rfl) ?hQ45 ?hN45 (Or.inl ⟨?hw45, ?hy45⟩) hHeld ?rest45
  case hi45 => simp only [List.getElem?_toArray, List.getElem?_cons_zero, List.getElem?_cons_succ]; rfl
  case hQ45 => exact fun _ _ _ h => h
  case hN45 => rfl
  case hw45 => rfl
  case hy45 => intro W hSw; have z0 := pw_cell_below (show Below _ _ W from hSw) g0; have z1 := pw_cell_below (show Below _ _ W from hSw) f0; have z2 := pw_cell_below (show Below _ _ W from hSw) g2; have z3 := pw_cell_below (show Below _ _ W from hSw) r0; go_simp; (try with_reducible rfl)
  simp only [Act.put, List.setIfInBounds_toArray, List.set_cons_zero, List.set_cons_succ]
  refine take_ (oi := ?oi46) (i := 13) (N := some 24) (v := ?v46) ?hi46 (by kernel_rfl) (by kernel_rfl) (by kernel_rfl) ?hQ46 ?hN46 (Or.inl ⟨?hw46, ?hy46⟩) hHeld ?rest46
  case hi46 => simp only [List.getElem?_toArray, List.getElem?_cons_zero, List.getElem?_cons_succ]; rfl
  case hQ46 => exact fun _ _ _ h => h
  case hN46 => rfl
  case hw46 => rfl
  case hy46 => intro W hSw; have z0 := pw_cell_below (show Below _ _ W from hSw) g0; have z1 := pw_cell_below (show Below _ _ W from hSw) f0; have z2 := pw_cell_below (show Below _ _ W from hSw) g2; have z3 := pw_cell_below (show Below _ _ W from hSw) r0; go_simp; (try with_reducible rfl)
  simp only [Act.put, List.setIfInBounds_toArray, List.set_cons_zero, List.set_cons_succ]
  refine take_ (oi := ?oi47) (i := 14) (N := some 25) (v := ?v47) ?hi47 (by kernel_rfl) (by kernel_rfl) (by kernel_rfl) ?hQ47 ?hN47 (Or.inl ⟨?hw47, ?hy47⟩) hHeld ?rest47
  case hi47 => simp only [List.getElem?_toArray, List.getElem?_cons_zero, List.getElem?_cons_succ]; rfl
  case hQ47 => exact fun _ _ _ h => h
  case hN47 => rfl
  case hw47 => rfl
  case hy47 => intro W hSw; have z0 := pw_cell_below (show Below _ _ W from hSw) g0; have z1 := pw_cell_below (show Below _ _ W from hSw) f0; have z2 := pw_cell_below (show Below _ _ W from hSw) g2; have z3 := pw_cell_below (show Below _ _ W from hSw) r0; go_simp; (try with_reducible rfl)
  simp only [Act.put, List.setIfInBounds_toArray, List.set_cons_zero, List.set_cons_succ]
  refine take_ (oi := ?oi48) (i := 15) (N := some 26) (v := ?v48) ?hi48 (by kernel_rfl) (by kernel_rfl) (by kernel_rfl) ?hQ48 ?hN48 (Or.inl ⟨?hw48, ?hy48⟩) hHeld ?rest48
  case hi48 => simp only [List.getElem?_toArray, List.getElem?_cons_zero, List.getElem?_cons_succ]; rfl
  case hQ48 => exact fun _ _ _ h => h
  case hN48 => rfl
  case hw48 => rfl
  case hy48 => intro W hSw; have z0 := pw_cell_below (show Below _ _ W from hSw) g0; have z1 := pw_cell_below (show Below _ _ W from hSw) f0; have z2 := pw_cell_below (show Below _ _ W from hSw) g2; have z3 := pw_cell_below (show Below _ _ W from hSw) r0; go_simp; (try with_reducible rfl)
  simp only [Act.put, List.setIfInBounds_toArray, List.set_cons_zero, List.set_cons_succ]
  refine take_ (oi := ?oi49) (i := 16) (N := some 27) (v := ?v49) ?hi49 (by kernel_rfl) (by kernel_rfl) (by kernel_rfl) ?hQ49 ?hN49 (Or.inl ⟨?hw49, ?hy49⟩) hHeld ?rest49
  case hi49 => simp only [List.getElem?_toArray, List.getElem?_cons_zero, List.getElem?_cons_succ]; rfl
  case hQ49 => exact fun _ _ _ h => h
  case hN49 => rfl
  case hw49 => rfl
  case hy49 => intro W hSw; have z0 := pw_cell_below (show Below _ _ W from hSw) g0; have z1 := pw_cell_below (show Below _ _ W from hSw) f0; have z2 := pw_cell_below (show Below _ _ W from hSw) g2; have z3 := pw_cell_below (show Below _ _ W from hSw) r0; go_simp; (try with_reducible rfl)
  simp only [Act.put, List.setIfInBounds_toArray, List.set_cons_zero, List.set_cons_succ]
  refine take_ (oi := ?oi50) (i := 17) (N := some 28) (v := ?v50) ?hi50 (by kernel_rfl) (by kernel_rfl) (by kernel_rfl) ?hQ50 ?hN50 (Or.inl ⟨?hw50, ?hy50⟩) hHeld ?rest50
  case hi50 => simp only [List.getElem?_toArray, List.getElem?_cons_zero, List.getElem?_cons_succ]; rfl
  case hQ50 => exact fun _ _ _ h => h
  case hN50 => rfl
  case hw50 => rfl
  case hy50 => intro W hSw; have z0 := pw_cell_below (show Below _ _ W from hSw) g0; have z1 := pw_cell_below (show Below _ _ W from hSw) f0; have z2 := pw_cell_below (show Below _ _ W from hSw) g2; have z3 := pw_cell_below (show Below _ _ W from hSw) r0; go_simp; (try with_reducible rfl)
  simp only [Act.put, List.setIfInBounds_toArray, List.set_cons_zero, List.set_cons_succ]
  refine take_ (oi := ?oi51) (i := 18) (N := some 29) (v := ?v51) ?hi51 (by kernel_rfl) (by kernel_rfl) (by kernel_rfl) ?hQ51 ?hN51 (Or.inl ⟨?hw51, ?hy51⟩) hHeld ?rest51
  case hi51 => simp only [List.getElem?_toArray, List.getElem?_cons_zero, List.getElem?_cons_succ]; rfl
  case hQ51 => exact fun _ _ _ h => h
  case hN51 => rfl
  case hw51 => rfl
  case hy51 => intro W hSw; have z0 := pw_cell_below (show Below _ _ W from hSw) g0; have z1 := pw_cell_below (show Below _ _ W from hSw) f0; have z2 := pw_cell_below (show Below _ _ W from hSw) g2; have z3 := pw_cell_below (show Below _ _ W from hSw) r0; go_simp; (try with_reducible rfl)
  simp only [Act.put, List.setIfInBounds_toArray, List.set_cons_zero, List.set_cons_succ]
  refine take_ (oi := ?oi52) (i := 19) (N := some 30) (v := ?v52) ?hi52 (by kernel_rfl) (by kernel_rfl) (by kernel_rfl) ?hQ52 ?hN52 (Or.inl ⟨?hw52, ?hy52⟩) hHeld ?rest52
  case hi52 => simp only [List.getElem?_toArray, List.getElem?_cons_zero, List.getElem?_cons_succ]; rfl
  case hQ52 => exact fun _ _ _ h => h
  case hN52 => rfl
  case hw52 => rfl
  case hy52 => intro W hSw; have z0 := pw_cell_below (show Below _ _ W from hSw) g0; have z1 := pw_cell_below (show Below _ _ W from hSw) f0; have z2 := pw_cell_below (show Below _ _ W from hSw) g2; have z3 := pw_cell_below (show Below _ _ W from hSw) r0; go_simp; (try with_reducible rfl)
  simp only [Act.put, List.setIfInBounds_toArray, List.set_cons_zero, List.set_cons_succ]
  refine take_ (oi := ?oi53) (i := 20) (N := some 31) (v := ?v53) ?hi53 (by kernel_rfl) (by kernel_rfl) (by kernel_rfl) ?hQ53 ?hN53 (Or.inl ⟨?hw53, ?hy53⟩) hHeld ?rest53
  case hi53 => simp only [List.getElem?_toArray, List.getElem?_cons_zero, List.getElem?_cons_succ]; rfl
  case hQ53 => exact fun _ _ _ h => h
  case hN53 => rfl
  case hw53 => rfl
  case hy53 => intro W hSw; have z0 := pw_cell_below (show Below _ _ W from hSw) g0; have z1 := pw_cell_below (show Below _ _ W from hSw) f0; have z2 := pw_cell_below (show Below _ _ W from hSw) g2; have z3 := pw_cell_below (show Below _ _ W from hSw) r0; go_simp; (try with_reducible rfl)
  simp only [Act.put, List.setIfInBounds_toArray, List.set_cons_zero, List.set_cons_succ]
  refine take_ (oi := ?oi54) (i := 21) (N := some 32) (v := ?v54) ?hi54 (by kernel_rfl) (by kernel_rfl) (by kernel_rfl) ?hQ54 ?hN54 (Or.inl ⟨?hw54, ?hy54⟩) hHeld ?rest54
  case hi54 => simp only [List.getElem?_toArray, List.getElem?_cons_zero, List.getElem?_cons_succ]; rfl
  case hQ54 => exact fun _ _ _ h => h
  case hN54 => rfl
  case hw54 => rfl
  case hy54 => intro W hSw; have z0 := pw_cell_below (show Below _ _ W from hSw) g0; have z1 := pw_cell_below (show Below _ _ W from hSw) f0; have z2 := pw_cell_below (show Below _ _ W from hSw) g2; have z3 := pw_cell_below (show Below _ _ W from hSw) r0; go_simp; (try with_reducible rfl)
  simp only [Act.put, List.setIfInBounds_toArray, List.set_cons_zero, List.set_cons_succ]
  refine take_ (oi := ?oi55) (i := 22) (N := some 33) (v := ?v55) ?hi55 (by kernel_rfl) (by kernel_rfl) (by kernel_rfl) ?hQ55 ?hN55 (Or.inl ⟨?hw55, ?hy55⟩) hHeld ?rest55
  case hi55 => simp only [List.getElem?_toArray, List.getElem?_cons_zero, List.getElem?_cons_succ]; rfl
  case hQ55 => exact fun _ _ _ h => h
  case hN55 => rfl
  case hw55 => rfl
  case hy55 => intro W hSw; have z0 := pw_cell_below (show Below _ _ W from hSw) g0; have z1 := pw_cell_below (show Below _ _ W from hSw) f0; have z2 := pw_cell_below (show Below _ _ W from hSw) g2; have z3 := pw_cell_below (show Below _ _ W from hSw) r0; go_simp; (try with_reducible rfl)
  simp only [Act.put, List.setIfInBounds_toArray, List.set_cons_zero, List.set_cons_succ]
  refine take_ (oi := ?oi56) (i := 23) (N := some 34) (v := ?v56) ?hi56 (by kernel_rfl) (by kernel_rfl) (by kernel_rfl) ?hQ56 ?hN56 (Or.inl ⟨?hw56, ?hy56⟩) hHeld ?rest56
  case hi56 => simp only [List.getElem?_toArray, List.getElem?_cons_zero, List.getElem?_cons_succ]; rfl
  case hQ56 => exact fun _ _ _ h => h
  case hN56 => rfl
  case hw56 => rfl
  case hy56 => intro W hSw; have z0 := pw_cell_below (show Below _ _ W from hSw) g0; have z1 := pw_cell_below (show Below _ _ W from hSw) f0; have z2 := pw_cell_below (show Below _ _ W from hSw) g2; have z3 := pw_cell_below (show Below _ _ W from hSw) r0; go_simp; (try with_reducible rfl)
  simp only [Act.put, List.setIfInBounds_toArray, List.set_cons_zero, List.set_cons_succ]
  refine take_ (oi := ?oi57) (i := 24) (N := some 35) (v := ?v57) ?hi57 (by kernel_rfl) (by kernel_rfl) (by kernel_rfl) ?hQ57 ?hN57 (Or.inl ⟨?hw57, ?hy57⟩) hHeld ?rest57
  case hi57 => simp only [List.getElem?_toArray, List.getElem?_cons_zero, List.getElem?_cons_succ]; rfl
  case hQ57 => exact fun _ _ _ h => h
  case hN57 => rfl
  case hw57 => rfl
  case hy57 => intro W hSw; have z0 := pw_cell_below (show Below _ _ W from hSw) g0; have z1 := pw_cell_below (show Below _ _ W from hSw) f0; have z2 := pw_cell_below (show Below _ _ W from hSw) g2; have z3 := pw_cell_below (show Below _ _ W from hSw) r0; go_simp; (try with_reducible rfl)
  simp only [Act.put, List.setIfInBounds_toArray, List.set_cons_zero, List.set_cons_succ]
  refine take_ (oi := ?oi58) (i := 25) (N := some 36) (v := ?v58) ?hi58 (by kernel_rfl) (by kernel_rfl) (by kernel_rfl) ?hQ58 ?hN58 (Or.inl ⟨?hw58, ?hy58⟩) hHeld ?rest58
  case hi58 => simp only [List.getElem?_toArray, List.getElem?_cons_zero, List.getElem?_cons_succ]; rfl
  case hQ58 => exact fun _ _ _ h => h
  case hN58 => rfl
  case hw58 => rfl
  case hy58 => intro W hSw; have z0 := pw_cell_below (show Below _ _ W from hSw) g0; have z1 := pw_cell_below (show Below _ _ W from hSw) f0; have z2 := pw_cell_below (show Below _ _ W from hSw) g2; have z3 := pw_cell_below (show Below _ _ W from hSw) r0; go_simp; (try with_reducible rfl)
  simp only [Act.put, List.setIfInBounds_toArray, List.set_cons_zero, List.set_cons_succ]
  refine wpAnyH_ready (rs := [26]) (by kernel_rfl) (by simp) ?_
  refine AllReadyH.cons (o := ?oi59) ?hi59 (fun K hK => ?step59) AllReadyH.nil
  case hi59 => simp only [List.getElem?_toArray, List.getElem?_cons_zero, List.getElem?_cons_succ]; rfl
  refine call_ (N := some 37) p1.fn #[p1.pay, .iface q1.ty q1.pay, typV] (by rfl) rfl (by go_simp) ?_
  refine (HC1.out _).mono ?_
  rintro e vv ⟨rfl, hb⟩
  refine ⟨_, rfl, ?_⟩
  refine hK.out _ _ (below_step hHeld hb) (fun hHeld => ?_)
  clear hK K hb
  simp only [Act.put, List.setIfInBounds_toArray, List.set_cons_zero, List.set_cons_succ]
  refine take_ (oi := ?oi60) (i := 27) (N := some 10) (v := ?v60) ?hi60 (by kernel_rfl) (by kernel_rfl) (by kernel_rfl) ?hQ60 ?hN60 (Or.inl ⟨?hw60, ?hy60⟩) hHeld ?rest60
  case hi60 => simp only [List.getElem?_toArray, List.getElem?_cons_zero, List.getElem?_cons_succ]; rfl
  case hQ60 => exact fun _ _ _ h => h
  case hN60 => rfl
  case hw60 => rfl
  case hy60 => intro W hSw; have z0 := pw_cell_below (show Below _ _ W from hSw) g0; have z1 := pw_cell_below (show Below _ _ W from hSw) f0; have z2 := pw_cell_below (show Below _ _ W from hSw) g2; have z3 := pw_cell_below (show Below _ _ W from hSw) r0; go_simp; (try with_reducible rfl)
  simp only [Act.put, List.setIfInBounds_toArray, List.set_cons_zero, List.set_cons_succ]
  refine take_ (oi := ?oi61) (i := 28) (N := some 38) (v := ?v61) ?hi61 (by kernel_rfl) (by kernel_rfl) (by kernel_rfl) ?hQ61 ?hN61 (Or.inl ⟨?hw61, ?hy61⟩) hHeld ?rest61
  case hi61 => simp only [List.getElem?_toArray, List.getElem?_cons_zero, List.getElem?_cons_succ]; rfl
  case hQ61 => exact fun _ _ _ h => h
  case hN61 => rfl
  case hw61 => rfl
  case hy61 => intro W hSw; have z0 := pw_cell_below (show Below _ _ W from hSw) g0; have z1 := pw_cell_below (show Below _ _ W from hSw) f0; have z2 := pw_cell_below (show Below _ _ W from hSw) g2; have z3 := pw_cell_below (show Below _ _ W from hSw) r0; go_simp; (try with_reducible rfl)
  simp only [Act.put, List.setIfInBounds_toArray, List.set_cons_zero, List.set_cons_succ]
  refine take_ (oi := ?oi62) (i := 29) (N := some 39) (v := ?v62) ?hi62 (by kernel_rfl) (by kernel_rfl) (by kernel_rfl) ?hQ62 ?hN62 (Or.inl ⟨?hw62, ?hy62⟩) hHeld ?rest62
  case hi62 => simp only [List.getElem?_toArray, List.getElem?_cons_zero, List.getElem?_cons_succ]; rfl
  case hQ62 => exact fun _ _ _ h => h
  case hN62 => rfl
  case hw62 => rfl
  case hy62 => intro W hSw; have z0 := pw_cell_below (show Below _ _ W from hSw) g0; have z1 := pw_cell_below (show Below _ _ W from hSw) f0; have z2 := pw_cell_below (show Below _ _ W from hSw) g2; have z3 := pw_cell_below (show Below _ _ W from hSw) r0; go_simp; (try with_reducible rfl)
  simp only [Act.put, List.setIfInBounds_toArray, List.set_cons_zero, List.set_cons_succ]
  refine take_ (oi := ?oi63) (i := 30) (N := some 7) (v := ?v63) ?hi63 (by kernel_rfl) (by kernel_rfl) (by kernel_rfl) ?hQ63 ?hN63 (Or.inl ⟨?hw63, ?hy63⟩) hHeld ?rest63
  case hi63 => simp only [List.getElem?_toArray, List.getElem?_cons_zero, List.getElem?_cons_succ]; rfl
  case hQ63 => exact fun _ _ _ h => h
  case hN63 => rfl
  case hw63 => rfl
  case hy63 => intro W hSw; have z0 := pw_cell_below (show Below _ _ W from hSw) g0; have z1 := pw_cell_below (show Below _ _ W from hSw) f0; have z2 := pw_cell_below (show Below _ _ W from hSw) g2; have z3 := pw_cell_below (show Below _ _ W from hSw) r0; go_simp; (try with_reducible rfl)
  simp only [Act.put, List.setIfInBounds_toArray, List.set_cons_zero, List.set_cons_succ]
  refine take_ (oi := ?oi64) (i := 31) (N := some 8) (v := ?v64) ?hi64 (by kernel_rfl) (by kernel_rfl) (by kernel_rfl) ?hQ64 ?hN64 (Or.inl ⟨?hw64, ?hy64⟩) hHeld ?rest64
  case hi64 => simp only [List.getElem?_toArray, List.getElem?_cons_zero, List.getElem?_cons_succ]; rfl
  case hQ64 => exact fun _ _ _ h => h
  case hN64 => rfl
  case hw64 => rfl
  case hy64 => intro W hSw; have z0 := pw_cell_below (show Below _ _ W from hSw) g0; have z1 := pw_cell_below (show Below _ _ W from hSw) f0; have z2 := pw_cell_below (show Below _ _ W from hSw) g2; have z3 := pw_cell_below (show Below _ _ W from hSw) r0; go_simp; (try with_reducible rfl)
  simp only [Act.put, List.setIfInBounds_toArray, List.set_cons_zero, List.set_cons_succ]
  refine wpAnyH_done (by kernel_rfl) ?_ _
  refine NoPanic.normal ?_
  have HV := Aside0.mk hHeld
  have G1 := pw_cell_below hHeld g1
  have F1 := pw_cell_below hHeld f1
  have G2 := pw_cell_below hHeld g2
  have R0 := pw_cell_below hHeld r0
  clear hHeld g0 g1 g2 f0 f1 f2 r0
  generalize vv = W6 at *
  rcases Int.lt_trichotomy z1 0 with hz1 | hz0 | hz1
  · go_wp2
    go_ret
    exact ⟨by first | rfl | (rw [decide_eq_false (by omega)]; rfl) | (rw [if_pos (by omega), decide_eq_false (by omega)]; rfl), HV.out⟩
  · go_wp2
    refine wp_region_noPanic ?_
    refine wp_region_held_drew (S := fun W => Below W6.heap.size W6 W) (by kernel_rfl) ?_ (fun hHeld => ?_)
    · exact below_drew (Below.refl _ _)
    refine take_ (oi := ?oi1) (i := 0) (N := some 51) (v := ?v1) ?hi1 (by kernel_rfl) (by kernel_rfl) (by kernel_rfl) ?hQ1 ?hN1 (Or.inl ⟨?hw1, ?hy1⟩) hHeld ?rest1
    case hi1 => simp only [List.getElem?_toArray, List.getElem?_cons_zero, List.getElem?_cons_succ]; rfl
    case hQ1 => exact fun _ _ _ h => h
    case hN1 => rfl
    case hw1 => rfl
    case hy1 => intro W hSw; have z0 := pw_cell_below (show Below _ _ W from hSw) G1; have z1 := pw_cell_below (show Below _ _ W from hSw) F1; have z2 := pw_cell_below (show Below _ _ W from hSw) G2; have z3 := pw_cell_below (show Below _ _ W from hSw) R0; go_simp; (try with_reducible rfl)
    simp only [Act.put, List.setIfInBounds_toArray, List.set_cons_zero, List.set_cons_succ]
    refine take_ (oi := ?oi2) (i := 1) (N := some 52) (v := ?v2) ?hi2 (by kernel_rfl) (by kernel_rfl) (by kernel_rfl) ?hQ2 ?hN2 (Or.inl ⟨?hw2, ?hy2⟩) hHeld ?rest2
    case hi2 => simp only [List.getElem?_toArray, List.getElem?_cons_zero, List.getElem?_cons_succ]; rfl
    case hQ2 => exact fun _ _ _ h => h
    case hN2 => rfl
    case hw2 => rfl
    case hy2 => intro W hSw; have z0 := pw_cell_below (show Below _ _ W from hSw) G1; have z1 := pw_cell_below (show Below _ _ W from hSw) F1; have z2 := pw_cell_below (show Below _ _ W from hSw) G2; have z3 := pw_cell_below (show Below _ _ W from hSw) R0; go_simp; (try with_reducible rfl)
    simp only [Act.put, List.setIfInBounds_toArray, List.set_cons_zero, List.set_cons_succ]
    refine take_ (oi := ?oi3) (i := 2) (N := some 53) (v := ?v3) ?hi3 (by kernel_rfl) (by kernel_rfl) (by kernel_rfl) ?hQ3 ?hN3 (Or.inl ⟨?hw3, ?hy3⟩) hHeld ?rest3
    case hi3 => simp only [List.getElem?_toArray, List.getElem?_cons_zero, List.getElem?_cons_succ]; rfl
    case hQ3 => exact fun _ _ _ h => h
    case hN3 => rfl
    case hw3 => rfl
    case hy3 => intro W hSw; have z0 := pw_cell_below (show Below _ _ W from hSw) G1; have z1 := pw_cell_below (show Below _ _ W from hSw) F1; have z2 := pw_cell_below (show Below _ _ W from hSw) G2; have z3 := pw_cell_below (show Below _ _ W from hSw) R0; go_simp; (try with_reducible rfl)
    simp only [Act.put, List.setIfInBounds_toArray, List.set_cons_zero, List.set_cons_succ]
    refine take_ (oi := ?oi4) (i := 3) (N := some 54) (v := ?v4) ?hi4 (by kernel_rfl) (by kernel_rfl) (by kernel_rfl) ?hQ4 ?hN4 (Or.inl ⟨?hw4, ?hy4⟩) hHeld ?rest4
    case hi4 => simp only [List.getElem?_toArray, List.getElem?_cons_zero, List.getElem?_cons_succ]; rfl
    case hQ4 => exact fun _ _ _ h => h
    case hN4 => rfl
    case hw4 => rfl
    case hy4 => intro W hSw; have z0 := pw_cell_below (show Below _ _ W from hSw) G1; have z1 := pw_cell_below (show Below _ _ W from hSw) F1; have z2 := pw_cell_below (show Below _ _ W from hSw) G2; have z3 := pw_cell_below (show Below _ _ W from hSw) R0; go_simp; (try with_reducible rfl)
    simp only [Act.put, List.setIfInBounds_toArray, List.set_cons_zero, List.set_cons_succ]
    refine take_ (oi := ?oi5) (i := 4) (N := some 55) (v := ?v5) ?hi5 (by kernel_rfl) (by kernel_rfl) (by kernel_rfl) ?hQ5 ?hN5 (Or.inl ⟨?hw5, ?hy5⟩) hHeld ?rest5
    case hi5 => simp only [List.getElem?_toArray, List.getElem?_cons_zero, List.getElem?_cons_succ]; rfl
    case hQ5 => exact fun _ _ _ h => h
    case hN5 => rfl
    case hw5 => rfl
    case hy5 => intro W hSw; have z0 := pw_cell_below (show Below _ _ W from hSw) G1; have z1 := pw_cell_below (show Below _ _ W from hSw) F1; have z2 := pw_cell_below (show Below _ _ W from hSw) G2; have z3 := pw_cell_below (show Below _ _ W from hSw) R0; go_simp; (try with_reducible rfl)
    simp only [Act.put, List.setIfInBounds_toArray, List.set_cons_zero, List.set_cons_succ]
    refine take_ (oi := ?oi6) (i := 5) (N := some 56) (v := ?v6) ?hi6 (by kernel_rfl) (by kernel_rfl) (by kernel_rfl) ?hQ6 ?hN6 (Or.inl ⟨?hw6, ?hy6⟩) hHeld ?rest6
    case hi6 => simp only [List.getElem?_toArray, List.getElem?_cons_zero, List.getElem?_cons_succ]; rfl
    case hQ6 => exact fun _ _ _ h => h
    case hN6 => rfl
    case hw6 => rfl
    case hy6 => intro W hSw; have z0 := pw_cell_below (show Below _ _ W from hSw) G1; have z1 := pw_cell_below (show Below _ _ W from hSw) F1; have z2 := pw_cell_below (show Below _ _ W from hSw) G2; have z3 := pw_cell_below (show Below _ _ W from hSw) R0; go_simp; (try with_reducible rfl)
    simp only [Act.put, List.setIfInBounds_toArray, List.set_cons_zero, List.set_cons_succ]
    refine take_ (oi := ?oi7) (i := 6) (N := some 57) (v := ?v7) ?hi7 (by kernel_rfl) (by kernel_rfl) (by kernel_rfl) ?hQ7 ?hN7 (Or.inl ⟨?hw7, ?hy7⟩) hHeld ?rest7
    case hi7 => simp only [List.getElem?_toArray, List.getElem?_cons_zero, List.getElem?_cons_succ]; rfl
    case hQ7 => exact fun _ _ _ h => h
    case hN7 => rfl
    case hw7 => rfl
    case hy7 => intro W hSw; have z0 := pw_cell_below (show Below _ _ W from hSw) G1; have z1 := pw_cell_below (show Below _ _ W from hSw) F1; have z2 := pw_cell_below (show Below _ _ W from hSw) G2; have z3 := pw_cell_below (show Below _ _ W from hSw) R0; go_simp; (try with_reducible rfl)
    simp only [Act.put, List.setIfInBounds_toArray, List.set_cons_zero, List.set_cons_succ]
    refine take_ (oi := ?oi8) (i := 7) (N := some 58) (v := ?v8) ?hi8 (by kernel_rfl) (by kernel_rfl) (by kernel_rfl) ?hQ8 ?hN8 (Or.inl ⟨?hw8, ?hy8⟩) hHeld ?rest8
    case hi8 => simp only [List.getElem?_toArray, List.getElem?_cons_zero, List.getElem?_cons_succ]; rfl
    case hQ8 => exact fun _ _ _ h => h
    case hN8 => rfl
    case hw8 => rfl
    case hy8 => intro W hSw; have z0 := pw_cell_below (show Below _ _ W from hSw) G1; have z1 := pw_cell_below (show Below _ _ W from hSw) F1; have z2 := pw_cell_below (show Below _ _ W from hSw) G2; have z3 := pw_cell_below (show Below _ _ W from hSw) R0; go_simp; (try with_reducible rfl)
    simp only [Act.put, List.setIfInBounds_toArray, List.set_cons_zero, List.set_cons_succ]
    refine take_ (oi := ?oi9) (i := 8) (N := some 59) (v := ?v9) ?hi9 (by kernel_rfl) (by kernel_rfl) (by kernel_rfl) ?hQ9 ?hN9 (Or.inl ⟨?hw9, ?hy9⟩) hHeld ?rest9
    case hi9 => simp only [List.getElem?_toArray, List.getElem?_cons_zero, List.getElem?_cons_succ]; rfl
    case hQ9 => exact fun _ _ _ h => h
    case hN9 => rfl
    case hw9 => rfl
    case hy9 => intro W hSw; have z0 := pw_cell_below (show Below _ _ W from hSw) G1; have z1 := pw_cell_below (show Below _ _ W from hSw) F1; have z2 := pw_cell_below (show Below _ _ W from hSw) G2; have z3 := pw_cell_below (show Below _ _ W from hSw) R0; go_simp; (try with_reducible rfl)
    simp only [Act.put, List.setIfInBounds_toArray, List.set_cons_zero, List.set_cons_succ]
    refine take_ (oi := ?oi10) (i := 9) (N := some 60) (v := ?v10) ?hi10 (by kernel_rfl) (by kernel_rfl) (by kernel_rfl) ?hQ10 ?hN10 (Or.inl ⟨?hw10, ?hy10⟩) hHeld ?rest10
    case hi10 => simp only [List.getElem?_toArray, List.getElem?_cons_zero, List.getElem?_cons_succ]; rfl
    case hQ10 => exact fun _ _ _ h => h
    case hN10 => rfl
    case hw10 => rfl
    case hy10 => intro W hSw; have z0 := pw_cell_below (show Below _ _ W from hSw) G1; have z1 := pw_cell_below (show Below _ _ W from hSw) F1; have z2 := pw_cell_below (show Below _ _ W from hSw) G2; have z3 := pw_cell_below (show Below _ _ W from hSw) R0; go_simp; (try with_reducible rfl)
    simp only [Act.put, List.setIfInBounds_toArray, List.set_cons_zero, List.set_cons_succ]
    refine take_ (oi := ?oi11) (i := 10) (N := some 61) (v := ?v11) ?hi11 (by kernel_rfl) (by kernel_rfl) (by kernel_rfl) ?hQ11 ?hN11 (Or.inl ⟨?hw11, ?hy11⟩) hHeld ?rest11
    case hi11 => simp only [List.getElem?_toArray, List.getElem?_cons_zero, List.getElem?_cons_succ]; rfl
    case hQ11 => exact fun _ _ _ h => h
    case hN11 => rfl
    case hw11 => rfl
    case hy11 => intro W hSw; have z0 := pw_cell_below (show Below _ _ W from hSw) G1; have z1 := pw_cell_below (show Below _ _ W from hSw) F1; have z2 := pw_cell_below (show Below _ _ W from hSw) G2; have z3 := pw_cell_below (show Below _ _ W from hSw) R0; go_simp; (try with_reducible rfl)
    simp only [Act.put, List.setIfInBounds_toArray, List.set_cons_zero, List.set_cons_succ]
    refine take_ (oi := ?oi12) (i := 11) (N := some 62) (v := ?v12) ?hi12 (by kernel_rfl) (by kernel_rfl) (by kernel_rfl) ?hQ12 ?hN12 (Or.inl ⟨?hw12, ?hy12⟩) hHeld ?rest12
    case hi12 => simp only [List.getElem?_toArray, List.getElem?_cons_zero, List.getElem?_cons_succ]; rfl
    case hQ12 => exact fun _ _ _ h => h
    case hN12 => rfl
    case hw12 => rfl
    case hy12 => intro W hSw; have z0 := pw_cell_below (show Below _ _ W from hSw) G1; have z1 := pw_cell_below (show Below _ _ W from hSw) F1; have z2 := pw_cell_below (show Below _ _ W from hSw) G2; have z3 := pw_cell_below (show Below _ _ W from hSw) R0; go_simp; (try with_reducible rfl)
    simp only [Act.put, List.setIfInBounds_toArray, List.set_cons_zero, List.set_cons_succ]
    refine take_ (oi := ?oi13) (i := 12) (N := some 63) (v := ?v13) ?hi13 (by kernel_rfl) (by kernel_rfl) (by kernel_rfl) ?hQ13 ?hN13 (Or.inl ⟨?hw13, ?hy13⟩) hHeld ?rest13
    case hi13 => simp only [List.getElem?_toArray, List.getElem?_cons_zero, List.getElem?_cons_succ]; rfl
    case hQ13 => exact fun _ _ _ h => h
    case hN13 => rfl
    case hw13 => rfl
    case hy13 => intro W hSw; have z0 := pw_cell_below (show Below _ _ W from hSw) G1; have z1 := pw_cell_below (show Below _ _ W from hSw) F1; have z2 := pw_cell_below (show Below _ _ W from hSw) G2; have z3 := pw_cell_below (show Below _ _ W from hSw) R0; go_simp; (try with_reducible rfl)
    simp only [Act.put, List.setIfInBounds_toArray, List.set_cons_zero, List.set_cons_succ]
    refine take_ (oi := ?oi14) (i := 13) (N := some 64) (v := ?v14) ?hi14 (by kernel_rfl) (by kernel_rfl) (by kernel_rfl) ?hQ14 ?hN14 (Or.inl ⟨?hw14, ?hy14⟩) hHeld ?rest14
    case hi14 => simp only [List.getElem?_toArray, List.getElem?_cons_zero, List.getElem?_cons_succ]; rfl
    case hQ14 => exact fun _ _ _ h => h
    case hN14 => rfl
    case hw14 => rfl
    case hy14 => intro W hSw; have z0 := pw_cell_below (show Below _ _ W from hSw) G1; have z1 := pw_cell_below (show Below _ _ W from hSw) F1; have z2 := pw_cell_below (show Below _ _ W from hSw) G2; have z3 := pw_cell_below (show Below _ _ W from hSw) R0; go_simp; (try with_reducible rfl)
    simp only [Act.put, List.setIfInBounds_toArray, List.set_cons_zero, List.set_cons_succ]
    refine take_ (oi := ?oi15) (i := 14) (N := some 65) (v := ?v15) ?hi15 (by kernel_rfl) (by kernel_rfl) (by kernel_rfl) ?hQ15 ?hN15 (Or.inl ⟨?hw15, ?hy15⟩) hHeld ?rest15
    case hi15 => simp only [List.getElem?_toArray, List.getElem?_cons_zero, List.getElem?_cons_succ]; rfl
    case hQ15 => exact fun _ _ _ h => h
    case hN15 => rfl
    case hw15 => rfl
    case hy15 => intro W hSw; have z0 := pw_cell_below (show Below _ _ W from hSw) G1; have z1 := pw_cell_below (show Below _ _ W from hSw) F1; have z2 := pw_cell_below (show Below _ _ W from hSw) G2; have z3 := pw_cell_below (show Below _ _ W from hSw) R0; go_simp; (try with_reducible rfl)
    simp only [Act.put, List.setIfInBounds_toArray, List.set_cons_zero, List.set_cons_succ]
    refine take_ (oi := ?oi16) (i := 15) (N := some 66) (v := ?v16) ?hi16 (by kernel_rfl) (by kernel_rfl) (by kernel_rfl) ?hQ16 ?hN16 (Or.inl ⟨?hw16, ?hy16⟩) hHeld ?rest16
    case hi16 => simp only [List.getElem?_toArray, List.getElem?_cons_zero, List.getElem?_cons_succ]; rfl
    case hQ16 => exact fun _ _ _ h => h
    case hN16 => rfl
    case hw16 => rfl
    case hy16 => intro W hSw; have z0 := pw_cell_below (show Below _ _ W from hSw) G1; have z1 := pw_cell_below (show Below _ _ W from hSw) F1; have z2 := pw_cell_below (show Below _ _ W from hSw) G2; have z3 := pw_cell_below (show Below _ _ W from hSw) R0; go_simp; (try with_reducible rfl)
    simp only [Act.put, List.setIfInBounds_toArray, List.set_cons_zero, List.set_cons_succ]
    refine take_ (oi := ?oi17) (i := 16) (N := some 67) (v := ?v17) ?hi17 (by kernel_rfl) (by kernel_rfl) (by kernel_rfl) ?hQ17 ?hN17 (Or.inl ⟨?hw17, ?hy17⟩) hHeld ?rest17
    case hi17 => simp only [List.getElem?_toArray, List.getElem?_cons_zero, List.getElem?_cons_succ]; rfl
    case hQ17 => exact fun _ _ _ h => h
    case hN17 => rfl
    case hw17 => rfl
    case hy17 => intro W hSw; have z0 := pw_cell_below (show Below _ _ W from hSw) G1; have z1 := pw_cell_below (show Below _ _ W from hSw) F1; have z2 := pw_cell_below (show Below _ _ W from hSw) G2; have z3 := pw_cell_below (show Below _ _ W from hSw) R0; go_simp; (try with_reducible rfl)
    simp only [Act.put, List.setIfInBounds_toArray, List.set_cons_zero, List.set_cons_succ]
    refine take_ (oi := ?oi18) (i := 17) (N := some 68) (v := ?v18) ?hi18 (by kernel_rfl) (by kernel_rfl) (by kernel_rfl) ?hQ18 ?hN18 (Or.inl ⟨?hw18, ?hy18⟩) hHeld ?rest18
    case hi18 => simp only [List.getElem?_toArray, List.getElem?_cons_zero, List.getElem?_cons_succ]; rfl
    case hQ18 => exact fun _ _ _ h => h
    case hN18 => rfl
    case hw18 => rfl
    case hy18 => intro W hSw; have z0 := pw_cell_below (show Below _ _ W from hSw) G1; have z1 := pw_cell_below (show Below _ _ W from hSw) F1; have z2 := pw_cell_below (show Below _ _ W from hSw) G2; have z3 := pw_cell_below (show Below _ _ W from hSw) R0; go_simp; (try with_reducible rfl)
    simp only [Act.put, List.setIfInBounds_toArray, List.set_cons_zero, List.set_cons_succ]
    refine take_ (oi := ?oi19) (i := 18) (N := some 69) (v := ?v19) ?hi19 (by kernel_rfl) (by kernel_rfl) (by kernel_rfl) ?hQ19 ?hN19 (Or.inl ⟨?hw19, ?hy19⟩) hHeld ?rest19
    case hi19 => simp only [List.getElem?_toArray, List.getElem?_cons_zero, List.getElem?_cons_succ]; rfl
    case hQ19 => exact fun _ _ _ h => h
    case hN19 => rfl
    case hw19 => rfl
    case hy19 => intro W hSw; have z0 := pw_cell_below (show Below _ _ W from hSw) G1; have z1 := pw_cell_below (show Below _ _ W from hSw) F1; have z2 := pw_cell_below (show Below _ _ W from hSw) G2; have z3 := pw_cell_below (show Below _ _ W from hSw) R0; go_simp; (try with_reducible rfl)
    simp only [Act.put, List.setIfInBounds_toArray, List.set_cons_zero, List.set_cons_succ]
    refine take_ (oi := ?oi20) (i := 19) (N := some 70) (v := ?v20) ?hi20 (by kernel_rfl) (by kernel_rfl) (by kernel_rfl) ?hQ20 ?hN20 (Or.inl ⟨?hw20, ?hy20⟩) hHeld ?rest20
    case hi20 => simp only [List.getElem?_toArray, List.getElem?_cons_zero, List.getElem?_cons_succ]; rfl
    case hQ20 => exact fun _ _ _ h => h
    case hN20 => rfl
    case hw20 => rfl
    case hy20 => intro W hSw; have z0 := pw_cell_below (show Below _ _ W from hSw) G1; have z1 := pw_cell_below (show Below _ _ W from hSw) F1; have z2 := pw_cell_below (show Below _ _ W from hSw) G2; have z3 := pw_cell_below (show Below _ _ W from hSw) R0; go_simp; (try with_reducible rfl)
    simp only [Act.put, List.setIfInBounds_toArray, List.set_cons_zero, List.set_cons_succ]
    refine take_ (oi := ?oi21) (i := 20) (N := some 71) (v := ?v21) ?hi21 (by kernel_rfl) (by kernel_rfl) (by kernel_rfl) ?hQ21 ?hN21 (Or.inl ⟨?hw21, ?hy21⟩) hHeld ?rest21
    case hi21 => simp only [List.getElem?_toArray, List.getElem?_cons_zero, List.getElem?_cons_succ]; rfl
    case hQ21 => exact fun _ _ _ h => h
    case hN21 => rfl
    case hw21 => rfl
    case hy21 => intro W hSw; have z0 := pw_cell_below (show Below _ _ W from hSw) G1; have z1 := pw_cell_below (show Below _ _ W from hSw) F1; have z2 := pw_cell_below (show Below _ _ W from hSw) G2; have z3 := pw_cell_below (show Below _ _ W from hSw) R0; go_simp; (try with_reducible rfl)
    simp only [Act.put, List.setIfInBounds_toArray, List.set_cons_zero, List.set_cons_succ]
    refine take_ (oi := ?oi22) (i := 21) (N := some 72) (v := ?v22) ?hi22 (by kernel_rfl) (by kernel_rfl) (by kernel_rfl) ?hQ22 ?hN22 (Or.inl ⟨?hw22, ?hy22⟩) hHeld ?rest22
    case hi22 => simp only [List.getElem?_toArray, List.getElem?_cons_zero, List.getElem?_cons_succ]; rfl
    case hQ22 => exact fun _ _ _ h => h
    case hN22 => rfl
    case hw22 => rfl
    case hy22 => intro W hSw; have z0 := pw_cell_below (show Below _ _ W from hSw) G1; have z1 := pw_cell_below (show Below _ _ W from hSw) F1; have z2 := pw_cell_below (show Below _ _ W from hSw) G2; have z3 := pw_cell_below (show Below _ _ W from hSw) R0; go_simp; (try with_reducible rfl)
    simp only [Act.put, List.setIfInBounds_toArray, List.set_cons_zero, List.set_cons_succ]
    refine take_ (oi := ?oi23) (i := 22) (N := some 73) (v := ?v23) ?hi23 (by kernel_rfl) (by kernel_rfl) (by kernel_rfl) ?hQ23 ?hN23 (Or.inl ⟨?hw23, ?hy23⟩) hHeld ?rest23
    case hi23 => simp only [List.getElem?_toArray, List.getElem?_cons_zero, List.getElem?_cons_succ]; rfl
    case hQ23 => exact fun _ _ _ h => h
    case hN23 => rfl
    case hw23 => rfl
    case hy23 => intro W hSw; have z0 := pw_cell_below (show Below _ _ W from hSw) G1; have z1 := pw_cell_below (show Below _ _ W from hSw) F1; have z2 := pw_cell_below (show Below _ _ W from hSw) G2; have z3 := pw_cell_below (show Below _ _ W from hSw) R0; go_simp; (try with_reducible rfl)
    simp only [Act.put, List.setIfInBounds_toArray, List.set_cons_zero, List.set_cons_succ]
    refine take_ (oi := ?oi24) (i := 23) (N := some 74) (v := ?v24) ?hi24 (by kernel_rfl) (by kernel_rfl) (by kernel_rfl) ?hQ24 ?hN24 (Or.inl ⟨?hw24, ?hy24⟩) hHeld ?rest24
    case hi24 => simp only [List.getElem?_toArray, List.getElem?_cons_zero, List.getElem?_cons_succ]; rfl
    case hQ24 => exact fun _ _ _ h => h
    case hN24 => rfl
    case hw24 => rfl
    case hy24 => intro W hSw; have z0 := pw_cell_below (show Below _ _ W from hSw) G1; have z1 := pw_cell_below (show Below _ _ W from hSw) F1; have z2 := pw_cell_below (show Below _ _ W from hSw) G2; have z3 := pw_cell_below (show Below _ _ W from hSw) R0; go_simp; (try with_reducible rfl)
    simp only [Act.put, List.setIfInBounds_toArray, List.set_cons_zero, List.set_cons_succ]
    refine take_ (oi := ?oi25) (i := 24) (N := some 75) (v := ?v25) ?hi25 (by kernel_rfl) (by kernel_rfl) (by kernel_rfl) ?hQ25 ?hN25 (Or.inl ⟨?hw25, ?hy25⟩) hHeld ?rest25
    case hi25 => simp only [List.getElem?_toArray, List.getElem?_cons_zero, List.getElem?_cons_succ]; rfl
    case hQ25 => exact fun _ _ _ h => h
    case hN25 => rfl
    case hw25 => rfl
    case hy25 => intro W hSw; have z0 := pw_cell_below (show Below _ _ W from hSw) G1; have z1 := pw_cell_below (show Below _ _ W from hSw) F1; have z2 := pw_cell_below (show Below _ _ W from hSw) G2; have z3 := pw_cell_below (show Below _ _ W from hSw) R0; go_simp; (try with_reducible rfl)
    simp only [Act.put, List.setIfInBounds_toArray, List.set_cons_zero, List.set_cons_succ]
    refine take_ (oi := ?oi26) (i := 25) (N := some 76) (v := ?v26) ?hi26 (by kernel_rfl) (by kernel_rfl) (by kernel_rfl) ?hQ26 ?hN26 (Or.inl ⟨?hw26, ?hy26⟩) hHeld ?rest26
    case hi26 => simp only [List.getElem?_toArray, List.getElem?_cons_zero, List.getElem?_cons_succ]; rfl
    case hQ26 => exact fun _ _ _ h => h
    case hN26 => rfl
    case hw26 => rfl
    case hy26 => intro W hSw; have z0 := pw_cell_below (show Below _ _ W from hSw) G1; have z1 := pw_cell_below (show Below _ _ W from hSw) F1; have z2 := pw_cell_below (show Below _ _ W from hSw) G2; have z3 := pw_cell_below (show Below _ _ W from hSw) R0; go_simp; (try with_reducible rfl)
    simp only [Act.put, List.setIfInBounds_toArray, List.set_cons_zero, List.set_cons_succ]
    refine wpAnyH_ready (rs := [26]) (by kernel_rfl) (by simp) ?_
    refine AllReadyH.cons (o := ?oi27) ?hi27 (fun K hK => ?step27) AllReadyH.nil
    case hi27 => simp only [List.getElem?_toArray, List.getElem?_cons_zero, List.getElem?_cons_succ]; rfl
    refine call_ (N := some 77) p2.fn #[p2.pay, .iface q2.ty q2.pay, typV] (by rfl) rfl (by go_simp) ?_
    refine (HC2.out _).mono ?_
    rintro e vv ⟨rfl, hb⟩
    refine ⟨_, rfl, ?_⟩
    refine hK.out _ _ (below_step hHeld hb) (fun hHeld => ?_)
    clear hK K hb
    simp only [Act.put, List.setIfInBounds_toArray, List.set_cons_zero, List.set_cons_succ]
    refine take_ (oi := ?oi28) (i := 27) (N := some 50) (v := ?v28) ?hi28 (by kernel_rfl) (by kernel_rfl) (by kernel_rfl) ?hQ28 ?hN28 (Or.inl ⟨?hw28, ?hy28⟩) hHeld ?rest28
    case hi28 => simp only [List.getElem?_toArray, List.getElem?_cons_zero, List.getElem?_cons_succ]; rfl
    case hQ28 => exact fun _ _ _ h => h
    case hN28 => rfl
    case hw28 => rfl
    case hy28 => intro W hSw; have z0 := pw_cell_below (show Below _ _ W from hSw) G1; have z1 := pw_cell_below (show Below _ _ W from hSw) F1; have z2 := pw_cell_below (show Below _ _ W from hSw) G2; have z3 := pw_cell_below (show Below _ _ W from hSw) R0; go_simp; (try with_reducible rfl)
    simp only [Act.put, List.setIfInBounds_toArray, List.set_cons_zero, List.set_cons_succ]
    refine take_ (oi := ?oi29) (i := 28) (N := some 78) (v := ?v29) ?hi29 (by kernel_rfl) (by kernel_rfl) (by kernel_rfl) ?hQ29 ?hN29 (Or.inl ⟨?hw29, ?hy29⟩) hHeld ?rest29
    case hi29 => simp only [List.getElem?_toArray, List.getElem?_cons_zero, List.getElem?_cons_succ]; rfl
    case hQ29 => exact fun _ _ _ h => h
    case hN29 => rfl
    case hw29 => rfl
    case hy29 => intro W hSw; have z0 := pw_cell_below (show Below _ _ W from hSw) G1; have z1 := pw_cell_below (show Below _ _ W from hSw) F1; have z2 := pw_cell_below (show Below _ _ W from hSw) G2; have z3 := pw_cell_below (show Below _ _ W from hSw) R0; go_simp; (try with_reducible rfl)
    simp only [Act.put, List.setIfInBounds_toArray, List.set_cons_zero, List.set_cons_succ]
    refine take_ (oi := ?oi30) (i := 29) (N := some 79) (v := ?v30) ?hi30 (by kernel_rfl) (by kernel_rfl) (by kernel_rfl) ?hQ30 ?hN30 (Or.inl ⟨?hw30, ?hy30⟩) hHeld ?rest30
    case hi30 => simp only [List.getElem?_toArray, List.getElem?_cons_zero, List.getElem?_cons_succ]; rfl
    case hQ30 => exact fun _ _ _ h => h
    case hN30 => rfl
    case hw30 => rfl
    case hy30 => intro W hSw; have z0 := pw_cell_below (show Below _ _ W from hSw) G1; have z1 := pw_cell_below (show Below _ _ W from hSw) F1; have z2 := pw_cell_below (show Below _ _ W from hSw) G2; have z3 := pw_cell_below (show Below _ _ W from hSw) R0; go_simp; (try with_reducible rfl)
    simp only [Act.put, List.setIfInBounds_toArray, List.set_cons_zero, List.set_cons_succ]
    refine take_ (oi := ?oi31) (i := 30) (N := some 9) (v := ?v31) ?hi31 (by kernel_rfl) (by kernel_rfl) (by kernel_rfl) ?hQ31 ?hN31 (Or.inl ⟨?hw31, ?hy31⟩) hHeld ?rest31
    case hi31 => simp only [List.getElem?_toArray, List.getElem?_cons_zero, List.getElem?_cons_succ]; rfl
    case hQ31 => exact fun _ _ _ h => h
    case hN31 => rfl
    case hw31 => rfl
    case hy31 => intro W hSw; have z0 := pw_cell_below (show Below _ _ W from hSw) G1; have z1 := pw_cell_below (show Below _ _ W from hSw) F1; have z2 := pw_cell_below (show Below _ _ W from hSw) G2; have z3 := pw_cell_below (show Below _ _ W from hSw) R0; go_simp; (try with_reducible rfl)
    simp only [Act.put, List.setIfInBounds_toArray, List.set_cons_zero, List.set_cons_succ]
    refine take_ (oi := ?oi32) (i := 31) (N := some 8) (v := ?v32) ?hi32 (by kernel_rfl) (by kernel_rfl) (by kernel_rfl) ?hQ32 ?hN32 (Or.inl ⟨?hw32, ?hy32⟩) hHeld ?rest32
    case hi32 => simp only [List.getElem?_toArray, List.getElem?_cons_zero, List.getElem?_cons_succ]; rfl
    case hQ32 => exact fun _ _ _ h => h
    case hN32 => rfl
    case hw32 => rfl
    case hy32 => intro W hSw; have z0 := pw_cell_below (show Below _ _ W from hSw) G1; have z1 := pw_cell_below (show Below _ _ W from hSw) F1; have z2 := pw_cell_below (show Below _ _ W from hSw) G2; have z3 := pw_cell_below (show Below _ _ W from hSw) R0; go_simp; (try with_reducible rfl)
    simp only [Act.put, List.setIfInBounds_toArray, List.set_cons_zero, List.set_cons_succ]
    refine wpAnyH_done (by kernel_rfl) ?_ _
    refine NoPanic.normal ?_
    have HV2 := Aside0.mk (below_step HV.out hHeld)
    clear hHeld G1 F1 G2 R0 HV
    by_cases hz2 : z2 < 0
    · go_wp2
      go_ret
      exact ⟨by first | rfl | (rw [decide_eq_false (by omega)]; rfl) | (rw [if_pos (by omega), decide_eq_false (by omega)]; rfl), HV2.out⟩
    · go_wp2
      go_ret
      exact ⟨by first | rfl | (rw [decide_eq_false (by omega)]; rfl) | (rw [if_pos (by omega), decide_eq_false (by omega)]; rfl), HV2.out⟩
  · go_wp2
    go_ret
    exact ⟨by first | rfl | (rw [decide_eq_false (by omega)]; rfl) | (rw [if_pos (by omega), decide_eq_false (by omega)]; rfl), HV.out⟩
end Go.Proofs.YtlcoodjkolponaaDoor.PRR
