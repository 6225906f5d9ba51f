/-
  Contracts of SortRanges and impl.RRSort: the same rows, in order. Condition: from 1 to 12 rows of at most 1000 ranges with values, as many in each.
-/
import Derived.Test.YtlcoodjkolponaaDoorRSc
import Derived.Test.YtlcoodjkolponaaDoorRSd
import Derived.Deep.Slices
import Derived.Laws.MakeOwn
namespace Go.Proofs.YtlcoodjkolponaaDoor.PRR
open Go.Shelf Go.RowKit Go.Lib Go.Proofs.YtlcoodjkolponaaDoorW.PrintWords Go.Proofs.YtlcoodjkolponaaDoorW.PrintLast Go.Proofs.YtlcoodjkolponaaDoorW.PrintMore
open Go.Proofs.YtlcoodjkolponaaDoor.PRG (C cmpC typV keep_frozen ends_caught)
set_option linter.unusedVariables false
set_option linter.unusedSimpArgs false
set_option maxRecDepth 100000
set_option maxHeartbeats 4000000

/-- The rows that came in, as headers. -/
theorem heads {l : List (List S44)} {n m : Nat} (hn : l.length = n) (hx : Rows m l) {w : World} {ad : Addr} (hC : Kd.C (Kd.slice 96 kE) w (some ad) n (l.map (fun x => x.map toC))) :
    ∃ d : Array Rw, d.size = n ∧ d.toList.map Rw.xs = l ∧ (∀ i, i < n → w.cell? (ad.add i) = some d[i]!.v) ∧ ∀ i, i < n → Good w m d[i]! := by
  have each : ∀ i, i < n → ∃ r : Rw, l[i]? = some r.xs ∧ w.cell? (ad.add i) = some r.v ∧ Good w m r := by
    intro i hi
    have hl : i < l.length := by omega
    obtain ⟨ad', A', c', e, hc, hle, hK⟩ := at_rows hC i hi (by rw [List.length_map]; omega)
    cases e
    rw [List.getElem_map, List.length_map] at hc hle hK
    have hg := hx _ (List.getElem_mem hl)
    exact ⟨⟨A', c', l[i]⟩, List.getElem?_eq_getElem hl, hc, ⟨hg.1, hg.2, by rw [← hg.1]; exact hK, by rw [← hg.1]; exact hle⟩⟩
  obtain ⟨q, hq⟩ := Deep.choose_lt each
  have hsz : ((List.range n).map q).toArray.size = n := by simp
  have hget : ∀ i, i < n → ((List.range n).map q).toArray[i]! = q i := fun i hi => by
    rw [getElem!_pos _ i (by omega)]; simp
  refine ⟨((List.range n).map q).toArray, hsz, ?_, fun i hi => by rw [hget i hi]; exact (hq i hi).2.1, fun i hi => by rw [hget i hi]; exact (hq i hi).2.2⟩
  refine List.ext_getElem? fun i => ?_
  by_cases hi : i < n
  · rw [(hq i hi).1]; simp [hi]
  · rw [List.getElem?_eq_none (by simp; omega), List.getElem?_eq_none (by omega)]
/-- What is behind the sort. -/
theorem Srt.out {w0 : World} {g bs be n c m : Nat} {d : Array Rw} {W : World} (h : Srt w0 g bs be n c m d W) (hb : n ≤ 12) (hm : m ≤ 1000) : Kd.C (Kd.slice 96 kE) W (some ⟨g, 0, none⟩) n ((d.toList.map Rw.xs).map (fun x => x.map toC)) := by
  have hs := h.size
  refine ⟨by simp [hs], by omega, fun _ => ⟨_, rfl, fun j p hj => ?_⟩⟩
  have hjn : j < n := by have := (List.getElem?_eq_some_iff.1 hj).1; simp at this; omega
  have hg := h.good j hjn
  have hp : p = d[j]!.xs.map toC := by
    rw [List.getElem?_map, List.getElem?_map, Array.getElem?_toList, Array.getElem?_eq_getElem (by omega)] at hj
    rw [getElem!_pos d j (by omega)]
    exact (Option.some.inj hj).symm
  subst hp
  refine ⟨[d[j]!.v], rfl, ⟨d[j]!.A, d[j]!.c, by unfold Rw.v; rw [List.length_map], by rw [List.length_map, hg.len]; exact hg.cap, by rw [List.length_map, hg.len]; exact Kd.C_below hg.row h.below⟩, fun k u hk => ?_⟩
  match k with
  | 0 =>
    have hc := h.cell hjn
    simp only [List.getElem?_cons_zero, Option.some.injEq] at hk
    subst hk
    have e : (Addr.add ⟨g, 0, none⟩ (j * (Kd.slice 96 kE).sz + 0)) = ⟨g, j, none⟩ := by
      show Addr.add ⟨g, 0, none⟩ (j * 1 + 0) = _
      unfold Addr.add; split <;> simp_all
    rw [e]; exact hc
  | k + 1 => simp at hk
/-- The headers in order are the rows in order. -/
theorem sorted_heads {n : Nat} {d : Array Rw} (hs : d.size = n) : Sorted ((Go.Sort.insertionSort ltR d 0 n).toList.map Rw.xs) (d.toList.map Rw.xs) := by
  obtain ⟨⟨h1, _, h3⟩, h4⟩ := Go.Sort.insertionSort_holds (lt := ltR) swo_ltR d 0 n (Nat.zero_le _) (by omega)
  generalize Go.Sort.insertionSort ltR d 0 n = d' at *
  refine ⟨?_, fun i j hj hi => ?_⟩
  · rw [show d'.extract 0 n = d' by rw [← hs, ← h1]; simp, show d.extract 0 n = d by rw [← hs]; simp] at h3
    exact h3.map _
  · have hj' : j < d'.size := by simpa using hj
    have h := h4 i j (Nat.zero_le _) hi (by omega)
    rw [getElem!_pos d' j hj', getElem!_pos d' i (by omega)] at h
    simpa [ltR] using h
theorem mk82 (n : Nat) (hn : n ≤ 1000) (w : World) : (Instr.makeSlice 82 (.int .i64 (n : Int)) (.int .i64 (n : Int))).run Tryd.prog w = .ok (.slice (some ⟨w.heap.size, 0, none⟩) n n) (w.alloc (.cells (madeCells #[.slice none 0 0] n) 87)) := by
  have hz : slE.zero = some (.slice none 0 0) := by kernel_rfl
  have hs : slE.size = 1 := by kernel_rfl
  have hb : slE.bytes = 24 := by kernel_rfl
  have h := run_makeSlice (P := Tryd.prog) (w := w) 82 87 slE (.slice none 0 0) Tryd.underlying82 (by kernel_rfl) hz .i64 .i64 (n : Int) (n : Int) (by omega) (by omega) (by rw [hs]; omega) (by rw [hb]; omega) (by omega)
  rw [hs, Int.toNat_natCast, Nat.mul_one] at h
  exact h
theorem sortRanges_ok (ad : Addr) (c0 : Nat) (l : List (List S44)) (n m : Nat) (hn : l.length = n) (h1 : 1 ≤ n) (h12 : n ≤ 12) (hm : m ≤ 1000) (hx : Rows m l) (w : World) (hC : Kd.C (Kd.slice 96 kE) w (some ad) n (l.map (fun x => x.map toC))) :
    Calls Tryd.prog 53 #[.slice (some ad) n c0] w fun e w' => ∃ (A : Option Addr) (c : Nat) (out : List (List S44)), e = .returned (.tuple #[.slice A n c, .nilIface]) ∧ Sorted out l ∧ Kd.C (Kd.slice 96 kE) w' A n (out.map (fun x => x.map toC)) ∧ Below w.heap.size w w' := by
  obtain ⟨d, hd, hxs, hcells, hgood⟩ := heads hn hx hC
  clear hC
  have hso : Aside0 (Sorted ((Go.Sort.insertionSort ltR d 0 n).toList.map Rw.xs) l) := ⟨hxs ▸ sorted_heads hd⟩
  have MK := mk82 n (by omega) w
  have hcs : (d.toList.map Rw.v).length = n := by simp [hd]
  have hsrc : ∀ j v, (d.toList.map Rw.v)[j]? = some v → w.cell? (ad.add j) = some v := by
    intro j v hj
    have hjn : j < n := by have := (List.getElem?_eq_some_iff.1 hj).1; omega
    rw [hcells j hjn]
    rw [List.getElem?_map, Array.getElem?_toList, Array.getElem?_eq_getElem (by omega)] at hj
    rw [getElem!_pos d j (by omega)]
    exact hj
  have hone : ∀ v ∈ d.toList.map Rw.v, v.oneCell' = true := by
    intro v hv
    obtain ⟨r, _, rfl⟩ := List.mem_map.1 hv
    rfl
  obtain ⟨V, hV⟩ : ∃ V : World, V = (w.alloc (.cells (madeCells #[.slice none 0 0] n) 87)).alloc (.cells #[.slice (some ⟨w.heap.size, 0, none⟩) n n] 82) := ⟨_, rfl⟩
  have b0 : V.heap[w.heap.size]? = some (.cells (madeCells #[.slice none 0 0] n) 87 (0, 0)) := hV ▸ blk_alloc (blk_new _ _) _
  have b1 : V.heap[w.heap.size + 1]? = some (.cells #[.slice (some ⟨w.heap.size, 0, none⟩) n n] 82 (0, 0)) := hV ▸ (by have h := blk_new (w.alloc (.cells (madeCells #[.slice none 0 0] n) 87)) (.cells #[.slice (some ⟨w.heap.size, 0, none⟩) n n] 82); simpa using h)
  have hB : Below w.heap.size w V := hV ▸ below_alloc (below_alloc (Below.refl _ _) _) _
  have COPY := run_copy_row (P := Tryd.prog) V 82 82 3 87 w.heap.size 0 n n ad n c0 _ 87 (d.toList.map Rw.v) Tryd.underlying82 (by kernel_rfl) b0 (by rw [hcs]; exact (Nat.min_self n).symm) (fun j v hj => pw_cell_below hB (hsrc j v hj)) (by rw [hcs, size_madeCells]; simp) hone
  have hcur : ((madeCells #[.slice none 0 0] n).toList.take 0 ++ d.toList.map Rw.v ++ (madeCells #[.slice none 0 0] n).toList.drop (0 + (d.toList.map Rw.v).length)).toArray = d.map Rw.v := by
    rw [hcs, List.drop_eq_nil_of_le (by rw [Array.length_toList, size_madeCells]; omega)]
    apply Array.ext'
    simp
  rw [hcur, hcs] at COPY
  have r0 := setRow_heap V w.heap.size _ (d.map Rw.v) 87 (0, 0) b0
  have r1 := (setRow_other V w.heap.size (w.heap.size + 1) (d.map Rw.v) (by omega)).trans b1
  have rB := below_setRow hB (Nat.le_refl _) (d.map Rw.v)
  have rz : (V.setRow w.heap.size (d.map Rw.v)).heap.size = w.heap.size + 2 := by rw [setRow_size, hV]; simp
  have rc : (V.setRow w.heap.size (d.map Rw.v)).cell? ⟨w.heap.size + 1, 0, none⟩ = some (.slice (some ⟨w.heap.size, 0, none⟩) n n) := by rw [blk_cell r1]; rfl
  clear b0 b1 hB hcur hsrc hone hcs hcells
  go_enter Tryd.func53, Tryd.ntmps53
  go_wp2
  rw [← hV, COPY]
  generalize V.setRow w.heap.size (d.map Rw.v) = U at *
  clear hV COPY V MK
  have hS : Srt w w.heap.size (w.heap.size + 1) (w.heap.size + 2) n n m d (U.alloc (.cells #[.nilIface] 68)) :=
    ⟨below_alloc rB _, blk_alloc r0 _, blk_alloc r1 _, by have h := blk_new U (.cells #[.nilIface] 68); rwa [rz] at h, hd, hgood⟩
  have HS := Aside0.mk (slice_ok (some ⟨w.heap.size, 0, none⟩) h12 h1 (sorts w w.heap.size (w.heap.size + 1) (w.heap.size + 2) n n m (Nat.le_refl _) (by omega) (by omega) hm) d _ hS)
  clear hS r0 r1 rB hgood
  simp only [Result.andThen]
  rw [Oper.upon_value]
  go_wp2_with (go_at_call 82; refine HS.out.mono ?_; rintro e w2 ⟨rfl, hs⟩; have c0 : w2.cell? ⟨w.heap.size + 1, 0, none⟩ = some (.slice (some ⟨w.heap.size, 0, none⟩) n n) := (by rw [blk_cell hs.box]; rfl); have c1 : w2.cell? ⟨w.heap.size + 2, 0, none⟩ = some .nilIface := (by rw [blk_cell hs.err]; rfl))
  have HS2 := Aside0.mk (fun W (h : Below w2.heap.size w2 W) => And.intro ((hs.step h).out h12 hm) (hs.step h).below)
  clear hs
  go_region
  all_goals go_wp2
  all_goals go_ret2
  all_goals
    refine ⟨_, _, _, rfl, hso.out, (HS2.out _ ?_).1, (HS2.out _ ?_).2⟩ <;> (repeat (first | (with_reducible exact Below.refl _ _) | (with_reducible apply pw_below_drewN) | (with_reducible apply below_drew)))
/-- impl.RRSort. -/
theorem rrSort_ok (A0 : Option Addr) (c0 : Nat) (l : List (List S44)) (m : Nat) (h1 : 1 ≤ l.length) (h12 : l.length ≤ 12) (hm : m ≤ 1000) (hx : Rows m l) (w : World) (hC : Kd.C (Kd.slice 44 k44) w A0 l.length l) :
    Calls Tryd.prog 18 #[.slice A0 l.length c0] w fun e w' => ∃ (A : Option Addr) (c : Nat) (out : List (List S44)), e = .returned (.tuple #[.slice A l.length c, .bool true]) ∧ Sorted out l ∧ Kd.C (Kd.slice 44 k44) w' A l.length out ∧ Below w.heap.size w w' := by
  have hl : (l.map (fun x => x.map toC)).length = l.length := List.length_map ..
  have EA := Aside0.mk (fun W (hb : Below w.heap.size w W) => turned54_ok A0 c0 l (by omega) (fun x hx' => by rw [(hx x hx').1]; exact hm) W (Kd.C_below hC hb))
  have ES := Aside0.mk (fun ad c W h => sortRanges_ok ad c l l.length m rfl h1 h12 hm hx W h)
  have EB := Aside0.mk (fun (A : Option Addr) c (out : List (List S44)) (ho : Sorted out l) W (h : Kd.C (Kd.slice 96 kE) W A l.length (out.map (fun x => x.map toC))) => turned56_ok A c out (by rw [ho.perm.length_eq]; omega) (fun x hx' => ⟨by rw [(Rows.out ho hx x hx').1]; exact hm, (Rows.out ho hx x hx').2⟩) W (by rw [ho.perm.length_eq]; exact h))
  have LEN := Aside0.mk (fun (out : List (List S44)) (ho : Sorted out l) => ho.perm.length_eq)
  have HL := Aside0.mk hl
  have h1' : 0 < (l.map (fun x => x.map toC)).length := by omega
  generalize l.map (fun x => x.map toC) = y at *
  generalize hn : l.length = n at *
  clear hC hx hl
  go_enter_defers Tryd.func18, Tryd.ntmps18
  go_wp2_with fail
  refine (EA.out _ (by repeat (first | (with_reducible exact Below.refl _ _) | (with_reducible apply below_alloc)))).mono ?_
  rintro e wa ⟨v1, rfl, hv1, hb1⟩
  have na : wa.cell? ⟨w.heap.size, 0, none⟩ = some (.bool false) := pw_cell_below hb1 (by simp [go_sem])
  have fa : wa.frozen? ⟨w.heap.size, 0, none⟩ = false := keep_frozen (v := .bool false) hb1 (by simp [go_sem]) (by simp [go_sem])
  have HB1 : Aside0 (Below w.heap.size w wa) := ⟨below_step (by repeat (first | (with_reducible exact Below.refl _ _) | (with_reducible apply below_alloc))) hb1⟩
  obtain ⟨ad, c2, rfl⟩ := Kd.R_slice1 hv1 h1'
  have HC1 := Aside0.mk (show Kd.C (Kd.slice 96 kE) wa (some ad) n y by have h := (Kd.R_reads' hv1).2.2; rwa [HL.out] at h)
  rw [HL.out]
  have hz1 : w.heap.size < wa.heap.size := by have h := hb1.size; simp at h; omega
  clear hv1 hb1
  go_wp2_with fail
  refine (ES.out ad c2 _ HC1.out).mono ?_
  rintro e wb ⟨A3, c3, out, rfl, hso, hC3, hb2⟩
  have nb : wb.cell? ⟨w.heap.size, 0, none⟩ = some (.bool false) := pw_cell_below hb2 na
  have fb : wb.frozen? ⟨w.heap.size, 0, none⟩ = false := keep_frozen (v := .bool false) hb2 na fa
  have HB2 := Aside0.mk (below_step HB1.out hb2)
  have HSo := Aside0.mk hso
  have HT := Aside0.mk (EB.out A3 c3 out hso wb hC3)
  have HLo := Aside0.mk (LEN.out out hso)
  rw [HLo.out] at HT
  have hz2 : w.heap.size < wb.heap.size := by have h := hb2.size; omega
  clear hso hC3 hb2 na fa HC1 HB1
  go_wp2_with fail
  refine HT.out.mono ?_
  rintro e wc ⟨v4, rfl, hv4, hb3⟩
  have nc : wc.cell? ⟨w.heap.size, 0, none⟩ = some (.bool false) := pw_cell_below hb3 nb
  have fc : wc.frozen? ⟨w.heap.size, 0, none⟩ = false := keep_frozen (v := .bool false) hb3 nb fb
  have HB3 := Aside0.mk (below_step HB2.out hb3)
  obtain ⟨A5, c5, rfl⟩ := Kd.R_slice hv4
  have HV4 := Aside0.mk (show Kd.C (Kd.slice 44 k44) (wc.setCell ⟨w.heap.size, 0, none⟩ (.bool true)) A5 out.length out from (Kd.R_reads' (Kd.R_far (p := ⟨w.heap.size, 0, none⟩) (Kd.R_bound hv4) (fun k hk => by have h := hk.2.1; show k ≠ w.heap.size; omega) (.bool true))).2.2)
  clear nb fb hb3 HB2 HT
  rw [HLo.out] at HV4
  go_wp2
  rw [HLo.out]
  exact ends_caught (v := .tuple #[.slice A5 n c5, .bool true]) (by simp [results, Tryd.results18, go_sem, nc]) ⟨_, _, _, rfl, HSo.out, HV4.out, HB3.out.setCell (by simp) _⟩
end Go.Proofs.YtlcoodjkolponaaDoor.PRR
