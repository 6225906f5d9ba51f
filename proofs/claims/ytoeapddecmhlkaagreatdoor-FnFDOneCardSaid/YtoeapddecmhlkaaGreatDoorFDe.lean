/-
  Contracts of impl.FDRun, impl.FDKey and fdLast at one step of at most one row. Condition: columns from 1 to 64; math/bits.deBruijn64tab as laid.
-/
import Derived.Test.YtoeapddecmhlkaaGreatDoorFDd
namespace Go.Proofs.YtoeapddecmhlkaaGreatDoor.FD
open Go.RowKit Go.Proofs.YtoeapddecmhlkaaGreatDoorW.PrintWords Go.Proofs.YtoeapddecmhlkaaGreatDoorW.PrintLast Go.Proofs.YtoeapddecmhlkaaGreatDoorW.PrintMore
set_option linter.unusedVariables false
set_option linter.unusedSimpArgs false
set_option maxRecDepth 100000
set_option maxHeartbeats 400000

theorem zeroAnd (m : Nat) (hm : m < big) : bits BinOp.and IntKind.u64 0 (m : Int) = 0 := by
  have h := u64_and_nat 0 m (by decide) hm
  rw [Nat.zero_and] at h
  exact h
theorem sub0_ok (m : Nat) (hm : m < big) (w : World) : Calls Tryz.prog 64 #[cv 0, cv m] w fun e w' => e = .returned (.bool true) ∧ Below w.heap.size w w' := by
  have hz := zeroAnd m hm
  clear hm
  go_enter Tryz.func64, Tryz.ntmps64
  go_wp2
  go_ret
  exact ⟨by first | rfl | simp [hz], below_then (below_alloc (Below.refl _ _) _) (by simp) (below_alloc (Below.refl _ _) _)⟩
theorem csub0_ok (m : Nat) (hm : m < big) (w : World) : Calls Tryz.prog 37 #[cv 0, cv m] w fun e w' => e = .returned (.bool true) ∧ Below w.heap.size w w' := by
  have H := Aside0.mk (fun W => sub0_ok m hm W)
  clear hm
  have HB := Aside0.mk (below_alloc (below_alloc (Below.refl w.heap.size w) (.cells #[.int .u64 0, .pointer none] 49)) (.cells #[.int .u64 (m : Int), .pointer none] 49))
  go_enter Tryz.func37, Tryz.ntmps37
  go_wp2_with fail
  refine (H.out _).mono ?_
  rintro e w2 ⟨rfl, hb⟩
  have HB2 := Aside0.mk (below_step HB.out hb)
  clear hb
  go_wp2_with fail
  go_ret
  exact ⟨rfl, HB2.out⟩
theorem closure_ok (f m : Nat) (hm : m < big) (w : World) : Calls Tryz.prog 16 #[.pointer (some ⟨f, 0, none⟩), cv 0, cv m, .slice none 0 0] w fun e w' => e = .returned (.bool true) ∧ Below w.heap.size w w' := by
  have H := Aside0.mk (fun W => csub0_ok m hm W)
  clear hm
  have HB := Aside0.mk (below_alloc (below_alloc (Below.refl w.heap.size w) (.cells #[.int .u64 0, .pointer none] 49)) (.cells #[.int .u64 (m : Int), .pointer none] 49))
  go_enter Tryz.func16, Tryz.ntmps16
  go_wp2_with fail
  refine (H.out _).mono ?_
  rintro e w2 ⟨rfl, hb⟩
  have HB2 := Aside0.mk (below_step HB.out hb)
  clear hb
  go_wp2_with fail
  go_ret
  exact ⟨rfl, HB2.out⟩
/-- Contract of ColsAreStrictKey. -/
theorem key_ok (f gk ck a n m : Nat) (hm : m < big) (w : World) (h : Dep w f gk ck a n) : Calls Tryz.prog 12 #[.pointer (some ⟨f, 0, none⟩), cv m] w fun e w' => e = .returned (.bool true) ∧ Below w.heap.size w w' := by
  have H := Aside0.mk (fun W => closure_ok f m hm W)
  have hB := below_alloc (Below.refl w.heap.size w) (.cells #[.int .u64 (m : Int), .pointer none] 49)
  obtain ⟨h1, zs, h2⟩ := h.below hB
  have hN := heap_alloc_new w (.cells #[.int .u64 (m : Int), .pointer none] 49)
  have HB := Aside0.mk hB
  obtain ⟨r0, r1, r2, r3, r4, r5, r6, r7⟩ := cells8 h1
  obtain ⟨m0, m1, m2, m3, m4⟩ := cells5 h2
  obtain ⟨x0, x1⟩ := cells2 hN
  clear hm h h1 h2 hB hN
  go_enter Tryz.func12, Tryz.ntmps12
  go_wp2
  generalize w.alloc (.cells #[.int .u64 (m : Int), .pointer none] 49) = V at *
  refine wp_region_noPanic ?_
  refine wp_region_held_drew (S := fun W => Below V.heap.size V W) (by kernel_rfl) ?_ (fun hHeld => ?_)
  · exact below_drew (Below.refl _ _)
  refine take_ (oi := ?oi1) (i := 0) (N := some 11) (v := ?v1) ?hi1 (by kernel_rfl) (by kernel_rfl) (by kernel_rfl) ?hQ1 ?hN1 (Or.inl ⟨?hw1, ?hy1⟩) hHeld ?rest1
  case hi1 => simp only [List.getElem?_toArray, List.getElem?_cons_zero, List.getElem?_cons_succ]; rfl
  case hQ1 => exact fun _ _ _ h => h
  case hN1 => rfl
  case hw1 => rfl
  case hy1 => intro W hSw; have z0 := pw_cell_below (show Below _ _ W from hSw) r7; have z1 := pw_cell_below (show Below _ _ W from hSw) m1; have z2 := pw_cell_below (show Below _ _ W from hSw) m2; have z3 := pw_cell_below (show Below _ _ W from hSw) x0; have z4 := pw_cell_below (show Below _ _ W from hSw) x1; go_simp; (try with_reducible rfl)
  simp only [Act.put, List.setIfInBounds_toArray, List.set_cons_zero, List.set_cons_succ]
  refine take_ (oi := ?oi2) (i := 1) (N := some 12) (v := ?v2) ?hi2 (by kernel_rfl) (by kernel_rfl) (by kernel_rfl) ?hQ2 ?hN2 (Or.inl ⟨?hw2, ?hy2⟩) hHeld ?rest2
  case hi2 => simp only [List.getElem?_toArray, List.getElem?_cons_zero, List.getElem?_cons_succ]; rfl
  case hQ2 => exact fun _ _ _ h => h
  case hN2 => rfl
  case hw2 => rfl
  case hy2 => intro W hSw; have z0 := pw_cell_below (show Below _ _ W from hSw) r7; have z1 := pw_cell_below (show Below _ _ W from hSw) m1; have z2 := pw_cell_below (show Below _ _ W from hSw) m2; have z3 := pw_cell_below (show Below _ _ W from hSw) x0; have z4 := pw_cell_below (show Below _ _ W from hSw) x1; go_simp; (try with_reducible rfl)
  simp only [Act.put, List.setIfInBounds_toArray, List.set_cons_zero, List.set_cons_succ]
  refine take_ (oi := ?oi3) (i := 2) (N := some 13) (v := ?v3) ?hi3 (by kernel_rfl) (by kernel_rfl) (by kernel_rfl) ?hQ3 ?hN3 (Or.inl ⟨?hw3, ?hy3⟩) hHeld ?rest3
  case hi3 => simp only [List.getElem?_toArray, List.getElem?_cons_zero, List.getElem?_cons_succ]; rfl
  case hQ3 => exact fun _ _ _ h => h
  case hN3 => rfl
  case hw3 => rfl
  case hy3 => intro W hSw; have z0 := pw_cell_below (show Below _ _ W from hSw) r7; have z1 := pw_cell_below (show Below _ _ W from hSw) m1; have z2 := pw_cell_below (show Below _ _ W from hSw) m2; have z3 := pw_cell_below (show Below _ _ W from hSw) x0; have z4 := pw_cell_below (show Below _ _ W from hSw) x1; go_simp; (try with_reducible rfl)
  simp only [Act.put, List.setIfInBounds_toArray, List.set_cons_zero, List.set_cons_succ]
  refine take_ (oi := ?oi4) (i := 3) (N := some 14) (v := ?v4) ?hi4 (by kernel_rfl) (by kernel_rfl) (by kernel_rfl) ?hQ4 ?hN4 (Or.inl ⟨?hw4, ?hy4⟩) hHeld ?rest4
  case hi4 => simp only [List.getElem?_toArray, List.getElem?_cons_zero, List.getElem?_cons_succ]; rfl
  case hQ4 => exact fun _ _ _ h => h
  case hN4 => rfl
  case hw4 => rfl
  case hy4 => intro W hSw; have z0 := pw_cell_below (show Below _ _ W from hSw) r7; have z1 := pw_cell_below (show Below _ _ W from hSw) m1; have z2 := pw_cell_below (show Below _ _ W from hSw) m2; have z3 := pw_cell_below (show Below _ _ W from hSw) x0; have z4 := pw_cell_below (show Below _ _ W from hSw) x1; go_simp; (try with_reducible rfl)
  simp only [Act.put, List.setIfInBounds_toArray, List.set_cons_zero, List.set_cons_succ]
  refine take_ (oi := ?oi5) (i := 4) (N := some 15) (v := ?v5) ?hi5 (by kernel_rfl) (by kernel_rfl) (by kernel_rfl) ?hQ5 ?hN5 (Or.inl ⟨?hw5, ?hy5⟩) hHeld ?rest5
  case hi5 => simp only [List.getElem?_toArray, List.getElem?_cons_zero, List.getElem?_cons_succ]; rfl
  case hQ5 => exact fun _ _ _ h => h
  case hN5 => rfl
  case hw5 => rfl
  case hy5 => intro W hSw; have z0 := pw_cell_below (show Below _ _ W from hSw) r7; have z1 := pw_cell_below (show Below _ _ W from hSw) m1; have z2 := pw_cell_below (show Below _ _ W from hSw) m2; have z3 := pw_cell_below (show Below _ _ W from hSw) x0; have z4 := pw_cell_below (show Below _ _ W from hSw) x1; go_simp; (try with_reducible rfl)
  simp only [Act.put, List.setIfInBounds_toArray, List.set_cons_zero, List.set_cons_succ]
  refine take_ (oi := ?oi6) (i := 5) (N := some 16) (v := ?v6) ?hi6 (by kernel_rfl) (by kernel_rfl) (by kernel_rfl) ?hQ6 ?hN6 (Or.inl ⟨?hw6, ?hy6⟩) hHeld ?rest6
  case hi6 => simp only [List.getElem?_toArray, List.getElem?_cons_zero, List.getElem?_cons_succ]; rfl
  case hQ6 => exact fun _ _ _ h => h
  case hN6 => rfl
  case hw6 => rfl
  case hy6 => intro W hSw; have z0 := pw_cell_below (show Below _ _ W from hSw) r7; have z1 := pw_cell_below (show Below _ _ W from hSw) m1; have z2 := pw_cell_below (show Below _ _ W from hSw) m2; have z3 := pw_cell_below (show Below _ _ W from hSw) x0; have z4 := pw_cell_below (show Below _ _ W from hSw) x1; go_simp; (try with_reducible rfl)
  simp only [Act.put, List.setIfInBounds_toArray, List.set_cons_zero, List.set_cons_succ]
  refine take_ (oi := ?oi7) (i := 6) (N := some 17) (v := ?v7) ?hi7 (by kernel_rfl) (by kernel_rfl) (by kernel_rfl) ?hQ7 ?hN7 (Or.inl ⟨?hw7, ?hy7⟩) hHeld ?rest7
  case hi7 => simp only [List.getElem?_toArray, List.getElem?_cons_zero, List.getElem?_cons_succ]; rfl
  case hQ7 => exact fun _ _ _ h => h
  case hN7 => rfl
  case hw7 => rfl
  case hy7 => intro W hSw; have z0 := pw_cell_below (show Below _ _ W from hSw) r7; have z1 := pw_cell_below (show Below _ _ W from hSw) m1; have z2 := pw_cell_below (show Below _ _ W from hSw) m2; have z3 := pw_cell_below (show Below _ _ W from hSw) x0; have z4 := pw_cell_below (show Below _ _ W from hSw) x1; go_simp; (try with_reducible rfl)
  simp only [Act.put, List.setIfInBounds_toArray, List.set_cons_zero, List.set_cons_succ]
  refine take_ (oi := ?oi8) (i := 7) (N := some 18) (v := ?v8) ?hi8 (by kernel_rfl) (by kernel_rfl) (by kernel_rfl) ?hQ8 ?hN8 (Or.inl ⟨?hw8, ?hy8⟩) hHeld ?rest8
  case hi8 => simp only [List.getElem?_toArray, List.getElem?_cons_zero, List.getElem?_cons_succ]; rfl
  case hQ8 => exact fun _ _ _ h => h
  case hN8 => rfl
  case hw8 => rfl
  case hy8 => intro W hSw; have z0 := pw_cell_below (show Below _ _ W from hSw) r7; have z1 := pw_cell_below (show Below _ _ W from hSw) m1; have z2 := pw_cell_below (show Below _ _ W from hSw) m2; have z3 := pw_cell_below (show Below _ _ W from hSw) x0; have z4 := pw_cell_below (show Below _ _ W from hSw) x1; go_simp; (try with_reducible rfl)
  simp only [Act.put, List.setIfInBounds_toArray, List.set_cons_zero, List.set_cons_succ]
  refine take_ (oi := ?oi9) (i := 8) (N := some 19) (v := ?v9) ?hi9 (by kernel_rfl) (by kernel_rfl) (by kernel_rfl) ?hQ9 ?hN9 (Or.inl ⟨?hw9, ?hy9⟩) hHeld ?rest9
  case hi9 => simp only [List.getElem?_toArray, List.getElem?_cons_zero, List.getElem?_cons_succ]; rfl
  case hQ9 => exact fun _ _ _ h => h
  case hN9 => rfl
  case hw9 => rfl
  case hy9 => intro W hSw; have z0 := pw_cell_below (show Below _ _ W from hSw) r7; have z1 := pw_cell_below (show Below _ _ W from hSw) m1; have z2 := pw_cell_below (show Below _ _ W from hSw) m2; have z3 := pw_cell_below (show Below _ _ W from hSw) x0; have z4 := pw_cell_below (show Below _ _ W from hSw) x1; go_simp; (try with_reducible rfl)
  simp only [Act.put, List.setIfInBounds_toArray, List.set_cons_zero, List.set_cons_succ]
  refine wpAnyH_ready (rs := [9]) (by kernel_rfl) (by simp) ?_
  refine AllReadyH.cons (o := ?oi10) ?hi10 (fun K hK => ?step10) AllReadyH.nil
  case hi10 => simp only [List.getElem?_toArray, List.getElem?_cons_zero, List.getElem?_cons_succ]; rfl
  refine goes_ (N := some 20) Tryz.func16 (by kernel_rfl) rfl #[.pointer (some ⟨f, 0, none⟩), cv 0, cv m, .slice none 0 0] (by rfl) rfl rfl (by (try simp only [List.map_toArray, List.map_cons, List.map_nil]); rfl) ?_
  refine (H.out _).mono ?_
  rintro e v9 ⟨rfl, hb⟩
  refine ⟨_, rfl, ?_⟩
  refine hK.out _ _ (below_step hHeld hb) (fun hHeld => ?_)
  clear hK K hb
  simp only [Act.put, List.setIfInBounds_toArray, List.set_cons_zero, List.set_cons_succ]
  refine take_ (oi := ?oi11) (i := 10) (N := some 4) (v := ?v11) ?hi11 (by kernel_rfl) (by kernel_rfl) (by kernel_rfl) ?hQ11 ?hN11 (Or.inl ⟨?hw11, ?hy11⟩) hHeld ?rest11
  case hi11 => simp only [List.getElem?_toArray, List.getElem?_cons_zero, List.getElem?_cons_succ]; rfl
  case hQ11 => exact fun _ _ _ h => h
  case hN11 => rfl
  case hw11 => rfl
  case hy11 => intro W hSw; have z0 := pw_cell_below (show Below _ _ W from hSw) r7; have z1 := pw_cell_below (show Below _ _ W from hSw) m1; have z2 := pw_cell_below (show Below _ _ W from hSw) m2; have z3 := pw_cell_below (show Below _ _ W from hSw) x0; have z4 := pw_cell_below (show Below _ _ W from hSw) x1; go_simp; (try with_reducible rfl)
  simp only [Act.put, List.setIfInBounds_toArray, List.set_cons_zero, List.set_cons_succ]
  refine wpAnyH_done (by kernel_rfl) ?_ _
  refine NoPanic.normal ?_
  go_wp2
  go_ret
  exact ⟨rfl, below_step HB.out hHeld⟩
/-- One step, as it lies. -/
def Step1 (W : World) (q : Nat) (A1 A2 : Option Addr) (c1 c2 : Nat) (l1 l2 : List Int) : Prop := W.heap[q]? = some (.cells #[.int .i64 7, .slice A1 l1.length c1, .slice A2 l2.length c2, .slice none 0 0, .slice none 0 0, .slice none 0 0, .slice none 0 0, .bool false] 27 (0, 0)) ∧ Lies W A1 l1 ∧ Lies W A2 l2
theorem Step1.below {W W' : World} {q : Nat} {A1 A2 : Option Addr} {c1 c2 : Nat} {l1 l2 : List Int} (h : Step1 W q A1 A2 c1 c2 l1 l2) (hb : Below W.heap.size W W') : Step1 W' q A1 A2 c1 c2 l1 l2 := ⟨(hb.block _ (blk_lt h.1)).trans h.1, h.2.1.below hb, h.2.2.below hb⟩
abbrev o27 (A1 A2 : Option Addr) (n1 c1 n2 c2 : Nat) : Obj := .cells #[.int .i64 7, .slice A1 n1 c1, .slice A2 n2 c2, .slice none 0 0, .slice none 0 0, .slice none 0 0, .slice none 0 0, .bool false] 27 (0, 0)
/-- Contract of last. -/
theorem last_ok (q : Nat) (A1 A2 : Option Addr) (c1 c2 : Nat) (l1 l2 : List Int) (w : World) (h : Step1 w q A1 A2 c1 c2 l1 l2) :
    Calls Tryz.prog 11 #[.slice (some ⟨q, 0, none⟩) 1 1] w fun e w' => ∃ f gk ck, e = .returned (.pointer (some ⟨f, 0, none⟩)) ∧ Dep w' f gk ck (mk l1) (mk l2) ∧ Below w.heap.size w w' := by
  have H := Aside0.mk (fun W (hb : Below w.heap.size w W) => do_ok A1 A2 c1 c2 l1 l2 W (h.2.1.below hb) (h.2.2.below hb))
  have HQ := Aside0.mk h.1
  generalize mk l1 = m1 at *
  generalize mk l2 = m2 at *
  generalize l1.length = n1 at *
  generalize l2.length = n2 at *
  clear h
  go_enter Tryz.func11, Tryz.ntmps11
  go_wp2
  go_loopw [3, 8] (fun t3 t8 wr => ((t8 = .int .i64 0 ∧ t3 = .slice none 0 0) ∨ (t8 = .int .i64 1 ∧ ∃ p cp f gk ck, t3 = .slice (some ⟨p, 0, none⟩) 1 cp ∧ Aside0 (∃ zs : Array Value, wr.heap[p]? = some (.cells (#[.pointer (some ⟨f, 0, none⟩)] ++ zs) 41 (0, 0))) ∧ Aside0 (Dep wr f gk ck m1 m2))) ∧ Aside0 (Below w.heap.size w wr)) (fun _ t8 _ => 1 - (intOf t8).toNat)
  case atStart => exact ⟨.inl ⟨rfl, rfl⟩, ⟨Below.refl _ _⟩⟩
  case round =>
    obtain ⟨⟨rfl, rfl⟩ | ⟨rfl, p, cp, f, gk, ck, rfl, HZ, HD⟩, HB⟩ := hrel
    · have hq := (HB.out.block _ (blk_lt HQ.out)).trans HQ.out
      obtain ⟨r0, r1, r2, r3, r4, r5, r6, r7⟩ := cells8 hq
      have HA := Aside0.mk (below_alloc (Below.refl wr.heap.size wr) (o27 A1 A2 n1 c1 n2 c2))
      have HB1 := Aside0.mk (below_step HB.out HA.out)
      have H2 := Aside0.mk (H.out _ HB1.out)
      have ltq := blk_lt hq
      clear hq H HB HQ
      go_wp2_with fail
      refine (H2.out).mono ?_
      rintro e w2 ⟨p, cp, f, gk, ck, rfl, hz, hd, hb⟩
      have HZ := Aside0.mk hz
      have HD := Aside0.mk hd
      have HBz := Aside0.mk (below_step HB1.out hb)
      clear hz hd hb H2 HB1 HA r0 r1 r2 r3 r4 r5 r6 r7
      go_wp2_with fail
      go_roundw
      case rel => exact ⟨.inr ⟨rfl, _, _, _, _, _, rfl, HZ, HD⟩, HBz⟩
      case measure => decide
    · obtain ⟨zs, hz⟩ := HZ.out
      have c0 : wr.cell? ⟨p, 0, none⟩ = some (.pointer (some ⟨f, 0, none⟩)) := by rw [Lib.cell_of_heap hz, Array.getElem?_append_left (by simp)]; rfl
      clear HZ hz
      go_wp2
      go_ret
      exact ⟨_, _, _, rfl, HD.out, HB.out⟩
/-- Contract of FDKey. -/
theorem fdKey_ok (q : Nat) (A1 A2 A3 : Option Addr) (c1 c2 c3 : Nat) (l1 l2 l3 : List Int) (w : World) (h : Step1 w q A1 A2 c1 c2 l1 l2) (h3 : Lies w A3 l3) :
    Calls Tryz.prog 8 #[.slice (some ⟨q, 0, none⟩) 1 1, .slice A3 l3.length c3] w fun e w' => e = .returned (.bool true) ∧ Below w.heap.size w w' := by
  have H1 := Aside0.mk (last_ok q A1 A2 c1 c2 l1 l2 w h)
  have H2 := Aside0.mk (fun W (hb : Below w.heap.size w W) => columns_ok A3 c3 l3 W (h3.below hb).1 h3.2.1 h3.2.2)
  have H3 := Aside0.mk (fun (W : World) (f gk ck : Nat) (hd : Dep W f gk ck (mk l1) (mk l2)) => key_ok f gk ck (mk l1) (mk l2) (mk l3) (mk_big l3 h3.2.1) W hd)
  generalize mk l1 = m1 at *
  generalize mk l2 = m2 at *
  generalize mk l3 = m3 at *
  generalize l3.length = n3 at *
  clear h h3
  go_enter Tryz.func8, Tryz.ntmps8
  go_wp2_with fail
  refine (H1.out).mono ?_
  rintro e w2 ⟨f, gk, ck, rfl, hd, hb⟩
  have HD := Aside0.mk hd
  have HB := Aside0.mk hb
  have H4 := Aside0.mk (H2.out _ hb)
  clear hd hb H1 H2
  go_wp2_with fail
  refine (H4.out).mono ?_
  rintro e w3 ⟨rfl, hb⟩
  have H5 := Aside0.mk (H3.out _ _ _ _ (HD.out.below hb))
  have HB2 := Aside0.mk (below_step HB.out hb)
  clear hb H3 H4 HD HB
  go_wp2_with fail
  refine (H5.out).mono ?_
  rintro e w4 ⟨rfl, hb⟩
  have HB3 := Aside0.mk (below_step HB2.out hb)
  clear hb H5 HB2
  go_wp2_with fail
  go_ret
  exact ⟨rfl, HB3.out⟩
theorem info30 : (Tryz.prog.info? 30).map (fun i => (i.zero, i.size, i.bytes)) = some (some (.agg #[.slice none 0 0, .slice none 0 0, .slice none 0 0, .slice none 0 0, .slice none 0 0, .slice none 0 0, .bool false, .bool false, .bool false]), 9, 152) := by kernel_rfl
/-- What was seen, as it lies. -/
def Seen (W : World) (b : Nat) (vs : List Value) (l : List Int) : Prop := ∃ A n1 k1 A2 n2 k2 A3 n3 k3 A5 n5 k5 A6 n6 k6, vs = [.slice A n1 k1, .slice A2 n2 k2, .slice A3 n3 k3, .slice none 0 0, .slice A5 n5 k5, .slice A6 n6 k6, .bool true, .bool false, .bool true] ∧ n1 = l.length ∧ ∃ base, b ≤ base ∧ Kd.R (Kd.int .i64) 3 W base (fun _ => True) (.slice A n1 k1) l
theorem Seen.below {W W' : World} {b b' : Nat} {vs : List Value} {l : List Int} (h : Seen W b vs l) (hb : Below W.heap.size W W') (hbb : b' ≤ b) : Seen W' b' vs l := by
  obtain ⟨A, n1, k1, A2, n2, k2, A3, n3, k3, A5, n5, k5, A6, n6, k6, e, h1, base, h2, h3⟩ := h
  exact ⟨A, n1, k1, A2, n2, k2, A3, n3, k3, A5, n5, k5, A6, n6, k6, e, h1, base, Nat.le_trans hbb h2, Kd.R_below h3 hb⟩
end Go.Proofs.YtoeapddecmhlkaaGreatDoor.FD
