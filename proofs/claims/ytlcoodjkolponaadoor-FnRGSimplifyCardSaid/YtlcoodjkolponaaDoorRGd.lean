/-
  Contracts of impl.RGMax and RGMin, and of what they call (turned, GetMySQLRangeCutMax and Min, cutOf), over this seat's translation. Condition: from 1 to 1000 positions.
-/
import Derived.Test.YtlcoodjkolponaaDoorRGa
namespace Go.Proofs.YtlcoodjkolponaaDoor.PRG
open Go.RowKit Go.Proofs.YtlcoodjkolponaaDoorW.PrintWords Go.Proofs.YtlcoodjkolponaaDoorW.PrintLast Go.Proofs.YtlcoodjkolponaaDoorW.PrintMore
set_option linter.unusedVariables false
set_option maxRecDepth 100000

theorem infoCut : (Tryd.prog.info? 71).map (fun i => (i.zero, i.size, i.bytes)) = some (some .nilIface, 1, 16) := by kernel_rfl
def kC : Kd C := Kd.scalar (fun c => .iface c.ty c.pay) (fun _ => rfl)
def cutOfS (x : S23) : C := C.of x.f0 x.f1
def rdC (xs : List C) (i : Int) : C := xs.getD i.toNat .bn
theorem at_C {w : World} {A : Option Addr} {n : Nat} {xs : List C} (h : Kd.C kC w A n xs) (i : Int) (h0 : 0 ≤ i) (h1 : i < n) : ∃ ad, A = some ad ∧ w.cell? (ad.add i.toNat) = some (.iface (rdC xs i).ty (rdC xs i).pay) := by
  obtain ⟨ad, c, e, _, hK, hc0⟩ := Kd.C_get h .bn i h0 h1
  have hc : ∀ j u, c[j]? = some u → w.cell? (ad.add (i.toNat * 1 + j)) = some u := hc0
  have hK' : c = [.iface (rdC xs i).ty (rdC xs i).pay] := hK
  subst hK'
  exact ⟨ad, e, by have hq := hc 0 _ rfl; rwa [Nat.mul_one, Nat.add_zero] at hq⟩
theorem take_map {α β : Type} (f : α → β) (d : α) (l : List α) (k : Nat) (h : k < l.length) : (l.take (k + 1)).map f = (l.take k).map f ++ [f (l.getD k d)] := by
  rw [List.take_succ_eq_append_getElem h, List.map_append, List.getD_eq_getElem?_getD, List.getElem?_eq_getElem h]; rfl

set_option maxHeartbeats 1000000 in
theorem turned_cut (A0 : Option Addr) (c0 : Nat) (l : List S23) (w : World) (hr0 : Kd.C k23 w A0 l.length l) (hl : l.length ≤ 1000) :
    Calls Tryd.prog 50 #[.slice A0 l.length c0, .func (.func 48) #[] #[]] w fun e w' => ∃ v, e = .returned v ∧ Kd.R kC 71 w' w.heap.size (fun _ => True) v (l.map cutOfS) ∧ Below w.heap.size w w' := by
  have HR := Aside0.mk hr0
  clear hr0
  go_enter Tryd.func50, Tryd.ntmps50
  go_wp2
  go_loopw [5, 10] (fun v i wr => ∃ k : Nat, k ≤ l.length ∧ i = .int .i64 k ∧ Aside0 (Kd.R kC 71 wr w.heap.size (fun _ => True) v ((l.take k).map cutOfS)) ∧ Aside0 (Below w.heap.size w wr)) (fun _ i _ => l.length - (intOf i).toNat)
  case atStart => exact ⟨0, Nat.zero_le _, rfl, ⟨Kd.R_nil _ _ _ _ _⟩, ⟨Below.refl _ _⟩⟩
  case round =>
    obtain ⟨k, hk, rfl, HO, HB⟩ := hrel
    by_cases hlt : k < l.length
    · obtain ⟨ad, e, hx0, hx1⟩ := at_T23 HR.out (k : Int) (by omega) (by omega)
      cases e
      replace hx0 := (HB.out.cell (World.block_lt_of_cell? w _ hx0)).trans hx0
      replace hx1 := (HB.out.cell (World.block_lt_of_cell? w _ hx1)).trans hx1
      simp only [Int.toNat_natCast] at hx0 hx1
      go_wp2_with (first | (go_at_call 48; refine (cut_ok _ _ _).mono ?_; rintro e W1 ⟨rfl, hb⟩; have hb1 := Aside0.mk (below_step (below_alloc (Below.refl _ _) _) hb); have HO1 := Aside0.mk (Kd.R_below HO.out hb1.out); have HB1 := Aside0.mk (below_then HB.out HB.out.size hb1.out); clear hb hb1) | ((with_reducible refine gate_builtin (b := .append) (xs := #[.tmp 14, .tmp 18]) rfl ?_); at_builtin; refine Kd.R_append kC (w0 := w) w.heap.size rfl (.tmp 14) (.tmp 18) 78 71 .nilIface 16 rfl Tryd.underlying78 infoCut rfl (by decide) (by omega) u5 ((l.take k).map cutOfS) (cutOfS (rd_T23 l k)) [.iface (cutOfS (rd_T23 l k)).ty (cutOfS (rd_T23 l k)).pay] (fun _ => True) (fun _ => False) rfl rfl ?aP (fun _ hk => hk.elim) ?aF ?aO ?aB ?aS ?aL ?_; (case aP => exact rfl); (case aF => exact (fun _ _ => trivial)); (case aO => exact HO1.out); (case aB => exact HB1.out); (case aS => exact HB1.out.size); (case aL => (simp only [List.length_map, List.length_take]; omega)); intro v1 w2 ho hb2 hg hat; clear hg hat; replace ho := Aside0.mk ho; replace hb2 := Aside0.mk hb2))
      go_roundw
      case rel => exact ⟨k + 1, by omega, by go_num, ⟨by rw [take_map cutOfS z23 l k hlt]; exact ho.out⟩, hb2⟩
      case measure => simp [intOf]; omega
    · obtain rfl : k = l.length := by omega
      rw [List.take_length] at HO
      go_wp2
      go_ret
      exact ⟨_, rfl, HO.out, HB.out⟩

/-- The running greatest (s = -1) or least (s = 1) one of some positions. -/
def pickC (s : Int) (m x : C) : C := if cmpC m x = s then x else m
def mostC (s : Int) : List C → C
  | [] => .bn
  | c :: r => r.foldl (pickC s) c
theorem mostC_snoc (s : Int) (l : List C) (x : C) (h : l ≠ []) : mostC s (l ++ [x]) = pickC s (mostC s l) x := by
  cases l with
  | nil => exact absurd rfl h
  | cons c r => simp [mostC, List.foldl_append]
theorem take_snocC (l : List C) (k : Nat) (h : k < l.length) : l.take (k + 1) = l.take k ++ [rdC l k] := by
  rw [List.take_succ_eq_append_getElem h]; simp [rdC, List.getElem?_eq_getElem h]

set_option maxHeartbeats 1000000 in
theorem getMax (A0 : Option Addr) (c0 : Nat) (l : List C) (w : World) (hr0 : Kd.C kC w A0 l.length l) (hl : l.length ≤ 1000) (h0 : 0 < l.length) :
    Calls Tryd.prog 49 #[typV, .slice A0 l.length c0] w fun e w' => e = .returned (.tuple #[.iface (mostC (-1) l).ty (mostC (-1) l).pay, .nilIface]) ∧ Below w.heap.size w w' := by
  obtain ⟨ad, e0, hx⟩ := at_C hr0 0 (by omega) (by omega)
  cases e0
  have HR := Aside0.mk hr0
  clear hr0
  simp only [Int.toNat_zero, Addr.add_zero'] at hx
  go_enter Tryd.func49, Tryd.ntmps49
  go_wp2
  refine wp_loop_rounds 1 ?_
  rw [rounds_succ]
  go_wp2
  clear hx
  go_loopw [6, 7] (fun i v wr => ∃ (k : Nat) (m : C), 1 ≤ k ∧ k ≤ l.length ∧ i = .int .i64 k ∧ v = .iface m.ty m.pay ∧ Aside0 (m = mostC (-1) (l.take k)) ∧ Aside0 (Below w.heap.size w wr)) (fun i _ _ => l.length - (intOf i).toNat)
  case atStart => exact ⟨1, rdC l 0, by omega, by omega, rfl, rfl, ⟨by cases l with | nil => simp at h0 | cons c r => rfl⟩, ⟨Below.refl _ _⟩⟩
  case round =>
    obtain ⟨k, m, hk1, hk, rfl, rfl, HM, HB⟩ := hrel
    by_cases hlt : k < l.length
    · obtain ⟨ad2, e2, hx⟩ := at_C HR.out (k : Int) (by omega) (by omega)
      obtain rfl : ad = ad2 := by injection e2
      simp only [Int.toNat_natCast] at hx
      replace hx := pw_cell_below HB.out hx
      by_cases hcase : cmpC m (rdC l k) = -1
      · skip
        have hq : (cmpC m (rdC l k) == -1) = true := beq_iff_eq.2 hcase
        have hm : mostC (-1) (l.take (k + 1)) = rdC l k := by
          rw [take_snocC l k hlt, mostC_snoc _ _ _ (by intro h; have h2 := congrArg List.length h; rw [List.length_take] at h2; simp only [List.length_nil] at h2; omega), ← HM.out, pickC, if_pos hcase]
        have HN := Aside0.mk hm
        clear hcase hm
        go_wp2
        go_region_held3 (fun W => W.cell? (ad.add k) = some (.iface (rdC l k).ty (rdC l k).pay) ∧ Below w.heap.size w W)
    (first | (go_split_ands; refine ⟨?_, ?_⟩ <;> assumption) | (go_split_ands; exact ⟨pw_cell_below hb (by assumption), below_step (by assumption) hb⟩) | (refine ⟨?_, ?_⟩; (iterate 1 (focus (first | assumption | (simp [go_sem]; done) | (simp [go_sem, *]; done)))); (repeat (first | (with_reducible exact Below.refl _ _) | (with_reducible apply below_alloc) | (with_reducible apply below_drew) | (with_reducible exact HB.out)))))
    (first | ((with_reducible refine (cmp_ok _ _ _).mono ?_); rintro e w3 ⟨rfl, hb⟩))
        all_goals go_wp2
        all_goals
          obtain ⟨hc0, hB⟩ := (by assumption : w3.cell? (ad.add k) = some (.iface (rdC l k).ty (rdC l k).pay) ∧ Below w.heap.size w w3)
          replace hB := Aside0.mk hB
        all_goals go_wp2
        all_goals go_roundw
        all_goals first
          | exact ⟨k + 1, rdC l k, by omega, by omega, by go_num, rfl, ⟨HN.out.symm⟩, hB⟩
          | (simp [intOf]; omega)
      · skip
        have hq : (cmpC m (rdC l k) == -1) = false := beq_eq_false_iff_ne.2 hcase
        have hm : mostC (-1) (l.take (k + 1)) = m := by
          rw [take_snocC l k hlt, mostC_snoc _ _ _ (by intro h; have h2 := congrArg List.length h; rw [List.length_take] at h2; simp only [List.length_nil] at h2; omega), ← HM.out, pickC, if_neg hcase]
        have HN := Aside0.mk hm
        clear hcase hm
        go_wp2
        go_region_held3 (fun W => W.cell? (ad.add k) = some (.iface (rdC l k).ty (rdC l k).pay) ∧ Below w.heap.size w W)
    (first | (go_split_ands; refine ⟨?_, ?_⟩ <;> assumption) | (go_split_ands; exact ⟨pw_cell_below hb (by assumption), below_step (by assumption) hb⟩) | (refine ⟨?_, ?_⟩; (iterate 1 (focus (first | assumption | (simp [go_sem]; done) | (simp [go_sem, *]; done)))); (repeat (first | (with_reducible exact Below.refl _ _) | (with_reducible apply below_alloc) | (with_reducible apply below_drew) | (with_reducible exact HB.out)))))
    (first | ((with_reducible refine (cmp_ok _ _ _).mono ?_); rintro e w3 ⟨rfl, hb⟩))
        all_goals go_wp2
        all_goals
          obtain ⟨hc0, hB⟩ := (by assumption : w3.cell? (ad.add k) = some (.iface (rdC l k).ty (rdC l k).pay) ∧ Below w.heap.size w w3)
          replace hB := Aside0.mk hB
        all_goals go_wp2
        all_goals go_roundw
        all_goals first
          | exact ⟨k + 1, m, by omega, by omega, by go_num, rfl, ⟨HN.out.symm⟩, hB⟩
          | (simp [intOf]; omega)
    · obtain rfl : k = l.length := by omega
      rw [List.take_length] at HM
      obtain ⟨rfl⟩ := HM
      go_wp2
      go_ret2
      exact ⟨rfl, HB.out⟩

set_option maxHeartbeats 1000000 in
theorem getMin (A0 : Option Addr) (c0 : Nat) (l : List C) (w : World) (hr0 : Kd.C kC w A0 l.length l) (hl : l.length ≤ 1000) (h0 : 0 < l.length) :
    Calls Tryd.prog 52 #[typV, .slice A0 l.length c0] w fun e w' => e = .returned (.tuple #[.iface (mostC (1) l).ty (mostC (1) l).pay, .nilIface]) ∧ Below w.heap.size w w' := by
  obtain ⟨ad, e0, hx⟩ := at_C hr0 0 (by omega) (by omega)
  cases e0
  have HR := Aside0.mk hr0
  clear hr0
  simp only [Int.toNat_zero, Addr.add_zero'] at hx
  go_enter Tryd.func52, Tryd.ntmps52
  go_wp2
  refine wp_loop_rounds 1 ?_
  rw [rounds_succ]
  go_wp2
  clear hx
  go_loopw [6, 7] (fun i v wr => ∃ (k : Nat) (m : C), 1 ≤ k ∧ k ≤ l.length ∧ i = .int .i64 k ∧ v = .iface m.ty m.pay ∧ Aside0 (m = mostC (1) (l.take k)) ∧ Aside0 (Below w.heap.size w wr)) (fun i _ _ => l.length - (intOf i).toNat)
  case atStart => exact ⟨1, rdC l 0, by omega, by omega, rfl, rfl, ⟨by cases l with | nil => simp at h0 | cons c r => rfl⟩, ⟨Below.refl _ _⟩⟩
  case round =>
    obtain ⟨k, m, hk1, hk, rfl, rfl, HM, HB⟩ := hrel
    by_cases hlt : k < l.length
    · obtain ⟨ad2, e2, hx⟩ := at_C HR.out (k : Int) (by omega) (by omega)
      obtain rfl : ad = ad2 := by injection e2
      simp only [Int.toNat_natCast] at hx
      replace hx := pw_cell_below HB.out hx
      by_cases hcase : cmpC m (rdC l k) = 1
      · skip
        have hq : (cmpC m (rdC l k) == 1) = true := beq_iff_eq.2 hcase
        have hm : mostC (1) (l.take (k + 1)) = rdC l k := by
          rw [take_snocC l k hlt, mostC_snoc _ _ _ (by intro h; have h2 := congrArg List.length h; rw [List.length_take] at h2; simp only [List.length_nil] at h2; omega), ← HM.out, pickC, if_pos hcase]
        have HN := Aside0.mk hm
        clear hcase hm
        go_wp2
        go_region_held3 (fun W => W.cell? (ad.add k) = some (.iface (rdC l k).ty (rdC l k).pay) ∧ Below w.heap.size w W)
    (first | (go_split_ands; refine ⟨?_, ?_⟩ <;> assumption) | (go_split_ands; exact ⟨pw_cell_below hb (by assumption), below_step (by assumption) hb⟩) | (refine ⟨?_, ?_⟩; (iterate 1 (focus (first | assumption | (simp [go_sem]; done) | (simp [go_sem, *]; done)))); (repeat (first | (with_reducible exact Below.refl _ _) | (with_reducible apply below_alloc) | (with_reducible apply below_drew) | (with_reducible exact HB.out)))))
    (first | ((with_reducible refine (cmp_ok _ _ _).mono ?_); rintro e w3 ⟨rfl, hb⟩))
        all_goals go_wp2
        all_goals
          obtain ⟨hc0, hB⟩ := (by assumption : w3.cell? (ad.add k) = some (.iface (rdC l k).ty (rdC l k).pay) ∧ Below w.heap.size w w3)
          replace hB := Aside0.mk hB
        all_goals go_wp2
        all_goals go_roundw
        all_goals first
          | exact ⟨k + 1, rdC l k, by omega, by omega, by go_num, rfl, ⟨HN.out.symm⟩, hB⟩
          | (simp [intOf]; omega)
      · skip
        have hq : (cmpC m (rdC l k) == 1) = false := beq_eq_false_iff_ne.2 hcase
        have hm : mostC (1) (l.take (k + 1)) = m := by
          rw [take_snocC l k hlt, mostC_snoc _ _ _ (by intro h; have h2 := congrArg List.length h; rw [List.length_take] at h2; simp only [List.length_nil] at h2; omega), ← HM.out, pickC, if_neg hcase]
        have HN := Aside0.mk hm
        clear hcase hm
        go_wp2
        go_region_held3 (fun W => W.cell? (ad.add k) = some (.iface (rdC l k).ty (rdC l k).pay) ∧ Below w.heap.size w W)
    (first | (go_split_ands; refine ⟨?_, ?_⟩ <;> assumption) | (go_split_ands; exact ⟨pw_cell_below hb (by assumption), below_step (by assumption) hb⟩) | (refine ⟨?_, ?_⟩; (iterate 1 (focus (first | assumption | (simp [go_sem]; done) | (simp [go_sem, *]; done)))); (repeat (first | (with_reducible exact Below.refl _ _) | (with_reducible apply below_alloc) | (with_reducible apply below_drew) | (with_reducible exact HB.out)))))
    (first | ((with_reducible refine (cmp_ok _ _ _).mono ?_); rintro e w3 ⟨rfl, hb⟩))
        all_goals go_wp2
        all_goals
          obtain ⟨hc0, hB⟩ := (by assumption : w3.cell? (ad.add k) = some (.iface (rdC l k).ty (rdC l k).pay) ∧ Below w.heap.size w w3)
          replace hB := Aside0.mk hB
        all_goals go_wp2
        all_goals go_roundw
        all_goals first
          | exact ⟨k + 1, m, by omega, by omega, by go_num, rfl, ⟨HN.out.symm⟩, hB⟩
          | (simp [intOf]; omega)
    · obtain rfl : k = l.length := by omega
      rw [List.take_length] at HM
      obtain ⟨rfl⟩ := HM
      go_wp2
      go_ret2
      exact ⟨rfl, HB.out⟩
end Go.Proofs.YtlcoodjkolponaaDoor.PRG
