/-
  Contracts of SimplifyRangeColumn and impl.RGSimplify: sorted, and joined one after the other. Condition: from 1 to 12 ranges, all with values.
-/
import Derived.Test.YtlcoodjkolponaaDoorRTc
import Derived.Test.YtlcoodjkolponaaDoorRTp
import Derived.Laws.MakeOwn
namespace Go.Proofs.YtlcoodjkolponaaDoor.PRR
open Go.RowKit Go.Proofs.YtlcoodjkolponaaDoorW.PrintWords Go.Proofs.YtlcoodjkolponaaDoorW.PrintLast Go.Proofs.YtlcoodjkolponaaDoorW.PrintMore
open Go.Proofs.YtlcoodjkolponaaDoor.PRG (C cmpC typV isEmpty_ok tryUnion_ok loC hiC)
set_option linter.unusedVariables false
set_option linter.unusedSimpArgs false
set_option maxRecDepth 100000
set_option maxHeartbeats 4000000

noncomputable def eT : TypeInfo := (Tryd.prog.info? 96).get (by kernel_rfl)
theorem mk86 (n : Nat) (hn : n ≤ 1000) (w : World) : (Instr.makeSlice 86 (.int .i64 (n : Int)) (.int .i64 (n : Int))).run Tryd.prog w = .ok (.slice (some ⟨w.heap.size, 0, none⟩) n n) (w.alloc (.cells (madeCells #[.nilIface, .nilIface, .nilIface] (n * 3)) 96)) := by
  have hz : eT.zero = some (.agg #[.nilIface, .nilIface, .nilIface]) := by kernel_rfl
  have hs : eT.size = 3 := by kernel_rfl
  have hb : eT.bytes = 48 := by kernel_rfl
  have h := run_makeSlice (P := Tryd.prog) (w := w) 86 96 eT (.agg #[.nilIface, .nilIface, .nilIface]) Tryd.underlying86 (by kernel_rfl) hz .i64 .i64 (n : Int) (n : Int) (by omega) (by omega) (by rw [hs]; omega) (by rw [hb]; omega) (by omega)
  rw [hs, Int.toNat_natCast] at h
  exact h
theorem copy86 {W : World} {g n c c0 : Nat} {ad : Addr} {l : List S44} {cur : Array Value} (hn : l.length = n) (hg : W.heap[g]? = some (.cells cur 96 (0, 0))) (hc : cur.size = n * 3)
    (hsrc : ∀ j v, (l.flatMap eS)[j]? = some v → W.cell? (ad.add j) = some v) :
    (Builtin.copy_ #[86, 86] 3 #[.slice (some ⟨g, 0, none⟩) n c, .slice (some ad) n c0]).run Tryd.prog W = .ok (goInt n) (W.setRow g (rowE l)) := by
  have hl := run_loadCells_list (P := Tryd.prog) W ad (l.flatMap eS) hsrc
  have hst := run_storeCells_at Tryd.prog g 0 96 (l.flatMap eS) 0 cur W hg (by rw [flat_len, hn]; omega) (fun v hv => by
    obtain ⟨x, _, hx⟩ := List.mem_flatMap.1 hv
    simp [eS, eC] at hx
    rcases hx with rfl | rfl | rfl <;> rfl)
  rw [flat_len, hn] at hl
  have e : (cur.toList.take (0 + 0) ++ l.flatMap eS ++ cur.toList.drop (0 + 0 + (l.flatMap eS).length)).toArray = rowE l := by
    unfold rowE
    rw [flat_len, hn, List.drop_eq_nil_of_le (by rw [Array.length_toList, hc]; omega)]
    simp
  rw [e] at hst
  simp [Builtin.copy_, run_underlying Tryd.underlying86, Builtin.lenOf, Builtin.firstCells, sz96, hl, hst]
@[go_sem] theorem method_type (w : World) (n : Nat) : (method (n + 1) 75 (.agg #[]) "Type").run Tryd.prog w = .ok (157, .agg #[]) w := by kernel_rfl
theorem type_ok (w : World) : Calls Tryd.prog 157 #[.agg #[]] w fun e w' => e = .returned (.int .i64 1) ∧ Below w.heap.size w w' := by
  go_enter Tryd.func157, Tryd.ntmps157
  go_wp2
  go_ret
  exact ⟨rfl, by repeat (first | (with_reducible exact Below.refl _ _) | (with_reducible apply below_alloc))⟩
theorem cells2' {W : World} {b t : Nat} {a0 a1 : Value} (q : W.heap[b]? = some (.cells #[a0, a1] t (0, 0))) : W.cell? ⟨b, 0, none⟩ = some a0 ∧ W.cell? ⟨b, 1, none⟩ = some a1 := by
  refine ⟨?_, ?_⟩ <;> (rw [blk_cell q]; rfl)
/-- The three cells of a range that is kept. -/
theorem cells3 {W : World} {b t : Nat} {a0 a1 a2 : Value} (q : W.heap[b]? = some (.cells #[a0, a1, a2] t (0, 0))) : W.cell? ⟨b, 0, none⟩ = some a0 ∧ W.cell? ⟨b, 1, none⟩ = some a1 ∧ W.cell? ⟨b, 2, none⟩ = some a2 := by
  refine ⟨?_, ?_, ?_⟩ <;> (rw [blk_cell q]; rfl)
theorem sets3 {W : World} {b t : Nat} {a0 a1 a2 : Value} (hr : W.heap[b]? = some (.cells #[a0, a1, a2] t (0, 0))) (v0 v1 v2 : Value) :
    (((W.setCell ⟨b, 0, none⟩ v0).setCell ⟨b, 1, none⟩ v1).setCell ⟨b, 2, none⟩ v2).heap[b]? = some (.cells #[v0, v1, v2] t (0, 0)) := by
  simp [World.setCell, Array.getElem?_modify, hr]
theorem keeps3 {W : World} {b : Nat} (v0 v1 v2 : Value) {k : Nat} (hk : k ≠ b) : (((W.setCell ⟨b, 0, none⟩ v0).setCell ⟨b, 1, none⟩ v1).setCell ⟨b, 2, none⟩ v2).heap[k]? = W.heap[k]? := by
  simp [World.setCell, Array.getElem?_modify, Ne.symm hk]
theorem belows3 {w W : World} {B b : Nat} (h : Below B w W) (hb : B ≤ b) (v0 v1 v2 : Value) : Below B w (((W.setCell ⟨b, 0, none⟩ v0).setCell ⟨b, 1, none⟩ v1).setCell ⟨b, 2, none⟩ v2) :=
  ((h.setCell (p := ⟨b, 0, none⟩) hb v0).setCell (p := ⟨b, 1, none⟩) hb v1).setCell (p := ⟨b, 2, none⟩) hb v2
theorem empty92_ok (w : World) : Calls Tryd.prog 92 #[typV] w fun e w' => e = .returned (.agg #[.iface 126 (.agg #[]), .iface 126 (.agg #[]), typV]) ∧ Below w.heap.size w w' := by
  go_enter Tryd.func92, Tryd.ntmps92
  go_wp2
  refine bodyPost_ret (v := .agg #[.iface 126 (.agg #[]), .iface 126 (.agg #[]), typV]) (by simp [results, Tryd.results92, go_sem]) rfl ⟨rfl, ?_⟩
  repeat (first | (with_reducible exact Below.refl _ _) | (with_reducible apply below_alloc) | (with_reducible apply below_drew))
/-- What is kept: nothing yet, or a range. -/
def curC : Option S44 → C × C
  | none => (.aa, .aa)
  | some c => toC c
/-- What is kept lies in its cells. -/
def CurAt (W : World) (cb : Nat) (p : C × C) : Prop := W.heap[cb]? = some (.cells #[.iface p.1.ty p.1.pay, .iface p.2.ty p.2.pay, typV] 96 (0, 0))
theorem CurAt.at {W : World} {cb : Nat} {p : C × C} (h : CurAt W cb p) : W.cell? ⟨cb, 0, none⟩ = some (.iface p.1.ty p.1.pay) ∧ W.cell? ⟨cb, 1, none⟩ = some (.iface p.2.ty p.2.pay) ∧ W.cell? ⟨cb, 2, none⟩ = some typV := cells3 h
theorem CurAt.below {W W' : World} {cb : Nat} {p : C × C} (h : CurAt W cb p) (hb : Below W.heap.size W W') : CurAt W' cb p := blk_below h hb
theorem mergeS_step (acc : List S44) (cur : Option S44) (L : List S44) (j : Nat) (h : j < L.length) :
    acc ++ mergeS cur (L.drop j) = match cur with
      | none => acc ++ mergeS (some L[j]) (L.drop (j + 1))
      | some c => if touchS c L[j] = true then acc ++ mergeS (some (hullS c L[j])) (L.drop (j + 1)) else (acc ++ [c]) ++ mergeS (some L[j]) (L.drop (j + 1)) := by
  rw [List.drop_eq_getElem_cons h]
  cases cur with
  | none => rfl
  | some c =>
    show acc ++ (if touchS c L[j] = true then _ else _) = _
    simp only
    split
    · rfl
    · simp
/-- All that holds in the loop. -/
structure Kept (w : World) (g cb : Nat) (L acc : List S44) (t8 : Value) (p : C × C) (W : World) : Prop where
  row : Kd.R kE 96 W w.heap.size (fun b => b ≠ cb ∧ b ≠ g) t8 (acc.map toC)
  below : Below w.heap.size w W
  src : W.heap[g]? = some (.cells (rowE L) 96 (0, 0))
  cur : CurAt W cb p
theorem Kept.step {w : World} {g cb : Nat} {L acc : List S44} {t8 : Value} {p : C × C} {W W' : World} (h : Kept w g cb L acc t8 p W) (hb : Below W.heap.size W W') : Kept w g cb L acc t8 p W' :=
  ⟨Kd.R_below h.row hb, below_step h.below hb, blk_below h.src hb, h.cur.below hb⟩
theorem Kept.set {w : World} {g cb : Nat} {L acc : List S44} {t8 : Value} {p : C × C} {W : World} (h : Kept w g cb L acc t8 p W) (hcb : w.heap.size ≤ cb) (hgc : g < cb) (q : C × C) :
    Kept w g cb L acc t8 q (((W.setCell ⟨cb, 0, none⟩ (.iface q.1.ty q.1.pay)).setCell ⟨cb, 1, none⟩ (.iface q.2.ty q.2.pay)).setCell ⟨cb, 2, none⟩ typV) :=
  ⟨Kd.R_step h.row (fun b hok _ => keeps3 _ _ _ hok.1), belows3 h.below hcb _ _ _, (keeps3 _ _ _ (by omega)).trans h.src, sets3 h.cur _ _ _⟩
theorem cellsE {W : World} {g : Nat} {L : List S44} (h : W.heap[g]? = some (.cells (rowE L) 96 (0, 0))) (j : Nat) (hj : j < L.length) :
    W.cell? ⟨g, j * 3, none⟩ = some (.iface (toC L[j]).1.ty (toC L[j]).1.pay) ∧ W.cell? ⟨g, j * 3 + 1, none⟩ = some (.iface (toC L[j]).2.ty (toC L[j]).2.pay) ∧ W.cell? ⟨g, j * 3 + 2, none⟩ = some typV := by
  have cell : ∀ u, u < 3 → W.cell? ⟨g, j * 3 + u, none⟩ = (eS L[j])[u]? := fun u hu => by
    rw [blk_cell h]
    unfold rowE
    rw [List.getElem?_toArray, flat_get L j u hj hu]
  exact ⟨cell 0 (by omega), cell 1 (by omega), cell 2 (by omega)⟩
theorem full_ne {x : S44} (h : FullS x) : ¬ 0 ≤ cmpC (toC x).1 (toC x).2 := by
  have hlt : lo x < hi x := h.lt
  have e : cmpC (toC x).1 (toC x).2 = sgn (lo x - hi x) := cmp_sgn _ _ _ _ h.lo h.hi
  rw [e]
  unfold sgn
  rw [if_pos (by omega)]
  omega
theorem simplify_ok (ad : Addr) (c0 : Nat) (l : List S44) (n : Nat) (hn : l.length = n) (h1 : 1 ≤ n) (h12 : n ≤ 12) (hf : ∀ x ∈ l, FullS x) (w : World) (hC : Kd.C kE w (some ad) n (l.map toC)) :
    Calls Tryd.prog 79 #[.slice (some ad) n c0] w fun e w' => ∃ (A : Option Addr) (c : Nat) (out : List S44), e = .returned (.tuple #[.slice A out.length c, .nilIface]) ∧ Simple out l ∧ Kd.C kE w' A out.length (out.map toC) ∧ Below w.heap.size w w' := by
  have hsrc : ∀ j v, (l.flatMap eS)[j]? = some v → w.cell? (ad.add j) = some v := by
    intro j v hj
    have hj3 : j < n * 3 := by have := (List.getElem?_eq_some_iff.1 hj).1; rw [flat_len, hn] at this; exact this
    have hi : j / 3 < l.length := by omega
    have hq : (eS l[j / 3])[j % 3]? = some v := by rw [← flat_get l (j / 3) (j % 3) hi (by omega), show j / 3 * 3 + j % 3 = j by omega]; exact hj
    obtain ⟨_, _, hA⟩ := hC
    obtain ⟨ad', he, hA⟩ := hA (by omega)
    cases he
    obtain ⟨cs, _, hK, hcell⟩ := hA (j / 3) (toC l[j / 3]) (by rw [List.getElem?_map, List.getElem?_eq_getElem hi]; rfl)
    obtain rfl : cs = eC (toC l[j / 3]) := hK
    have h := hcell (j % 3) v hq
    rw [show j / 3 * kE.sz + j % 3 = j from by show j / 3 * 3 + j % 3 = j; omega] at h
    exact h
  have HCC := Aside0.mk (fun W (h : Below w.heap.size w W) => Kd.C_below hC h)
  have HSRC := Aside0.mk hsrc
  have HF := Aside0.mk hf
  have HN := Aside0.mk hn
  have hty : Aside0 (∀ W, Below w.heap.size w W → W.cell? ⟨ad.block, ad.off + 2, none⟩ = some typV) := ⟨fun W hb => by
    obtain ⟨ad', e, _, _, g2⟩ := at_E (Kd.C_below hC hb) 0 (by omega) (by rw [List.length_map]; omega)
    cases e
    rwa [Nat.zero_mul, Addr.add_zero'] at g2⟩
  have hn0 : ((n : Int) == 0) = false := by simp; omega
  have hty0 := hty.out w (Below.refl _ _)
  clear hC hsrc hf hn
  go_enter Tryd.func79, Tryd.ntmps79
  go_wp2
  clear hty0
  go_loopw [5] (fun t5 wr => ∃ k : Nat, t5 = .int .i64 (k : Int) ∧ 1 ≤ k ∧ k ≤ n ∧ Aside0 (Below w.heap.size w wr)) (fun t5 _ => n - (intOf t5).toNat)
  case atStart => exact ⟨1, by go_num, by omega, by omega, ⟨Below.refl _ _⟩⟩
  case round =>
    obtain ⟨k, rfl, hk1, hk, HB⟩ := hrel
    rcases Nat.lt_or_ge k n with hlt | hge
    · obtain ⟨ad', e1, _, _, g2⟩ := at_E (HCC.out wr HB.out) k hlt (by rw [List.length_map, HN.out]; exact hlt)
      cases e1
      go_wp2
      go_region_with (go_at_call 157; refine (type_ok _).mono ?_; rintro e w2 ⟨rfl, hb2⟩; have HB := Aside0.mk (below_step (by repeat (first | (with_reducible exact HB.out) | (with_reducible apply below_drew) | (with_reducible apply pw_below_drewN))) hb2); have g2 := pw_cell_below hb2 (by first | exact g2 | (simpa using g2)); clear hb2)
      all_goals go_wp2
      all_goals
        go_roundw
        case rel => exact ⟨k + 1, by go_num, by omega, by omega, HB⟩
        case measure => simp [intOf]; omega
    · obtain rfl : k = n := by omega
      have MK := mk86 k (by omega) wr
      obtain ⟨V, hV⟩ : ∃ V : World, V = wr.alloc (.cells (madeCells #[.nilIface, .nilIface, .nilIface] (k * 3)) 96) := ⟨_, rfl⟩
      have b0 : V.heap[wr.heap.size]? = some (.cells (madeCells #[.nilIface, .nilIface, .nilIface] (k * 3)) 96 (0, 0)) := hV ▸ blk_new _ _
      have hBV : Below w.heap.size w V := hV ▸ below_alloc HB.out _
      have COPY := copy86 (W := V) (g := wr.heap.size) (n := k) (c := k) (c0 := c0) (ad := ad) (l := l) HN.out b0 (by rw [size_madeCells]) (fun j v hj => pw_cell_below hBV (HSRC.out j v hj))
      have r0 := setRow_heap V wr.heap.size _ (rowE l) 96 (0, 0) b0
      have rB := below_setRow hBV HB.out.size (rowE l)
      have rz : (V.setRow wr.heap.size (rowE l)).heap.size = wr.heap.size + 1 := by rw [setRow_size, hV]; simp
      generalize V.setRow wr.heap.size (rowE l) = U at *
      rw [hV] at COPY
      clear b0 hBV hV V HSRC
      have H0 := Aside0.mk r0
      have HBU := Aside0.mk rB
      have HZ := Aside0.mk rz
      have hS0 : Srs w wr.heap.size U.heap.size k l.toArray (U.alloc (.cells #[.slice (some ⟨wr.heap.size, 0, none⟩) k k, .nilIface] 141)) :=
        ⟨below_alloc rB _, blk_alloc r0 _, blk_new _ _, by simpa using HN.out, fun i hi => by
          rw [getElem!_pos l.toArray i (by simpa using (HN.out ▸ hi : i < l.length))]
          exact HF.out _ (by simp)⟩
      have HS := Aside0.mk (sort91_ok HB.out.size (by rw [rz]; omega) h12 l.toArray _ hS0)
      have HSim := Aside0.mk (simple_of (n := k) (d := l.toArray) (by simpa using HN.out) h1 (by simpa using HF.out))
      have hL : (Go.Sort.insertionSort ltE l.toArray 0 k).toList.length = k := by
        have h := (Go.Sort.insertionSort_holds (lt := ltE) swo_ltE l.toArray 0 k (Nat.zero_le _) (by have h := HN.out; simp; omega)).1.1
        rw [Array.length_toList, h]; simpa using HN.out
      generalize hd : Go.Sort.insertionSort ltE l.toArray 0 k = d at *
      clear r0 rB rz hS0 hd
      go_wp2_with (first
        | (go_at_call 91; refine HS.out.mono ?_; rintro e w2 ⟨rfl, hs⟩; have hbx := cells2' hs.box; have hty2 := hty.out w2 hs.below; have HS2 := Aside0.mk hs; clear hs)
        | (go_at_call 92; refine (empty92_ok _).mono ?_; rintro e w3 ⟨rfl, hb3⟩; have HS3 := Aside0.mk (HS2.out.step hb3); clear hb3))
      have hLF : ∀ x ∈ d.toList, FullS x := by
        intro x hx
        obtain ⟨i, hi, rfl⟩ := List.mem_iff_getElem.1 hx
        have h := HS3.out.full i (by rw [← HS3.out.size]; simpa using hi)
        rw [getElem!_pos d i (by simpa using hi)] at h
        simpa using h
      have HG0 := Aside0.mk (blk_alloc HS3.out.row (.cells #[.iface 126 (.agg #[]), .iface 126 (.agg #[]), typV] 96))
      have HC0 := Aside0.mk (blk_new w3 (.cells #[.iface 126 (.agg #[]), .iface 126 (.agg #[]), typV] 96))
      have HB0 := Aside0.mk (below_alloc HS3.out.below (.cells #[.iface 126 (.agg #[]), .iface 126 (.agg #[]), typV] 96))
      have hcb : w.heap.size ≤ w3.heap.size := HS3.out.below.size
      have hgc : wr.heap.size < w3.heap.size := blk_lt HS3.out.row
      have hgw : w.heap.size ≤ wr.heap.size := HB.out.size
      have HLF := Aside0.mk hLF
      generalize d.toList = L at *
      clear HS HS2 HS3 hbx hty2 hty HB HBU H0 HZ HCC HF hLF
      generalize w3.alloc (.cells #[.iface 126 (.agg #[]), .iface 126 (.agg #[]), typV] 96) = Z at *
      generalize w3.heap.size = cb at *
      generalize wr.heap.size = g at *
      go_loopw [8, 71] (fun t8 t71 wq => ∃ (j : Nat) (acc : List S44) (cur : Option S44), t71 = .int .i64 (j : Int) ∧ j ≤ k ∧ acc.length ≤ j ∧ (0 < j → cur.isSome = true) ∧ (j = 0 → cur = none) ∧ Aside0 (acc ++ mergeS cur (L.drop j) = mergeS none L) ∧ Aside0 (∀ c, cur = some c → FullS c) ∧ Aside0 (Kept w g cb L acc t8 (curC cur) wq)) (fun _ t71 _ => k - (intOf t71).toNat)
      case atStart => exact ⟨0, [], none, rfl, Nat.zero_le _, Nat.le_refl _, fun h => absurd h (by omega), fun _ => rfl, ⟨rfl⟩, ⟨fun c h => by cases h⟩, ⟨⟨Kd.R_nil _ _ _ _ _, HB0.out, HG0.out, HC0.out⟩⟩⟩
      case round =>
        obtain ⟨j, acc, cur, rfl, hj, hacc, hsome, hnone, HM, HCF, HK⟩ := hrel
        clear HB0 HG0 HC0
        rcases Nat.lt_or_ge j k with hjl | hjg
        · have hjL : j < L.length := by rw [hL]; exact hjl
          obtain ⟨g0, g1, g2⟩ := cellsE HK.out.src j hjL
          have XF := HLF.out _ (List.getElem_mem hjL)
          have HST := Aside0.mk (HM.out.symm.trans (mergeS_step acc cur L j hjL))
          generalize L[j] = x at *
          have hcbq : cb < wr.heap.size := blk_lt HK.out.cur
          have hcbn : ¬ cb = wr.heap.size := by omega
          clear HM
          cases cur with
          | none =>
            have HT := Aside0.mk (tryUnion0_ok (toC x).1 (toC x).2 (full_ne XF))
            have hq := Aside0.mk (show toC x = curC (some x) from rfl)
            generalize toC x = q at *
            obtain ⟨u0, u1, u2'⟩ : wr.cell? ⟨cb, 0, none⟩ = some (.iface 126 (.agg #[])) ∧ wr.cell? ⟨cb, 1, none⟩ = some (.iface 126 (.agg #[])) ∧ wr.cell? ⟨cb, 2, none⟩ = some typV := HK.out.cur.at
            go_wp2_with (go_at_call 68; refine (HT.out _).mono ?_; rintro e v ⟨rfl, hb⟩; have HKv := Aside0.mk (HK.out.step (below_step (by repeat (first | (with_reducible exact Below.refl _ _) | (with_reducible apply below_alloc))) hb)); obtain ⟨s0, s1, s2⟩ := HKv.out.cur.at; have y0 := blk_frozen HKv.out.cur 0; have y1 := blk_frozen HKv.out.cur 1; have y2 := blk_frozen HKv.out.cur 2; have hv1 := blk_lt HKv.out.cur; have hv2 : ¬ cb = v.heap.size := (by omega); clear hb u0 u1 u2')
            have HF3 := Aside0.mk ((HKv.out.set hcb hgc q).step (below_alloc (Below.refl _ _) (.cells #[.iface q.1.ty q.1.pay, .iface q.2.ty q.2.pay, typV] 96)))
            go_roundw
            case rel => exact ⟨j + 1, acc, some x, by go_num, by omega, by omega, fun _ => rfl, fun h => absurd h (by omega), ⟨HST.out.symm⟩, ⟨fun c h => by cases h; exact XF⟩, ⟨by rw [← hq.out]; exact HF3.out⟩⟩
            case measure => simp [intOf]; omega
          | some c =>
            have CF := HCF.out c rfl
            cases ht : touchS c x with
            | true =>
              have hT := fun W => tryUnion_ok (toC c).1 (toC c).2 (toC x).1 (toC x).2 (full_ne CF) (full_ne XF) true ht W
              rw [if_pos rfl, show loC (toC c).1 (toC x).1 = (toC (hullS c x)).1 by rw [toC_hull], show hiC (toC c).2 (toC x).2 = (toC (hullS c x)).2 by rw [toC_hull]] at hT
              have HT := Aside0.mk hT
              have hq := Aside0.mk (show toC (hullS c x) = curC (some (hullS c x)) from rfl)
              have HST2 : Aside0 (acc ++ mergeS (some (hullS c x)) (L.drop (j + 1)) = mergeS none L) := ⟨by have h := HST.out; simp only [ht, if_true] at h; exact h.symm⟩
              have HFX := Aside0.mk (hull_full CF XF)
              obtain ⟨u0, u1, u2'⟩ := (show CurAt wr cb (toC c) from HK.out.cur).at
              clear hT ht HST
              generalize hullS c x = y at *
              generalize toC y = q at *
              generalize toC x = q1 at *
              generalize toC c = q2 at *
              go_wp2_with (go_at_call 68; refine (HT.out _).mono ?_; rintro e v ⟨rfl, hb⟩; have HKv := Aside0.mk (HK.out.step (below_step (by repeat (first | (with_reducible exact Below.refl _ _) | (with_reducible apply below_alloc))) hb)); obtain ⟨s0, s1, s2⟩ := HKv.out.cur.at; have y0 := blk_frozen HKv.out.cur 0; have y1 := blk_frozen HKv.out.cur 1; have y2 := blk_frozen HKv.out.cur 2; have hv1 := blk_lt HKv.out.cur; have hv2 : ¬ cb = v.heap.size := (by omega); clear hb u0 u1 u2')
              have HF3 := Aside0.mk ((HKv.out.set hcb hgc q).step (below_alloc (Below.refl _ _) (.cells #[.iface q.1.ty q.1.pay, .iface q.2.ty q.2.pay, typV] 96)))
              go_roundw
              case rel => exact ⟨j + 1, acc, some y, by go_num, by omega, by omega, fun _ => rfl, fun h => absurd h (by omega), HST2, ⟨fun c h => by cases h; exact HFX.out⟩, ⟨by rw [← hq.out]; exact HF3.out⟩⟩
              case measure => simp [intOf]; omega
            | false =>
              have hT := fun W => tryUnion_ok (toC c).1 (toC c).2 (toC x).1 (toC x).2 (full_ne CF) (full_ne XF) false ht W
              rw [if_neg (by simp)] at hT
              have HT := Aside0.mk hT
              have HE : Aside0 (∀ W : World, Calls Tryd.prog 64 #[.agg #[.iface (toC c).1.ty (toC c).1.pay, .iface (toC c).2.ty (toC c).2.pay, typV]] W fun e w' => e = .returned (.tuple #[.bool false, .nilIface]) ∧ Below W.heap.size W w') := ⟨fun W => (decide_eq_false (full_ne CF)) ▸ isEmpty_ok (toC c).1 (toC c).2 W⟩
              have hq := Aside0.mk (show toC x = curC (some x) from rfl)
              have HST2 : Aside0 ((acc ++ [c]) ++ mergeS (some x) (L.drop (j + 1)) = mergeS none L) := ⟨by have h := HST.out; simp only [ht, Bool.false_eq_true, if_false] at h; exact h.symm⟩
              obtain ⟨u0, u1, u2'⟩ := (show CurAt wr cb (toC c) from HK.out.cur).at
              have HMAP : Aside0 ((acc ++ [c]).map toC = acc.map toC ++ [toC c]) := ⟨by simp⟩
              have hla : (acc.map toC).length ≤ 1000 := by rw [List.length_map]; omega
              clear hT ht HST HLF
              have HR0 := Kd.R_mono (ok' := fun b => b ≠ cb ∧ b ≠ g ∧ b ≠ wr.heap.size) (Kd.R_bound HK.out.row) (fun b hb => ⟨hb.1.1, hb.1.2, by have := hb.2.2.1; omega⟩)
              obtain ⟨A5, c5, rfl⟩ := Kd.R_slice HR0
              have HR0 := Aside0.mk HR0
              have hgq : g < wr.heap.size := by omega
              have hla2 : ((acc.map toC).length + 1) * 48 ≤ 140737488355328 := by omega
              have HSRC := Aside0.mk HK.out.src
              have HCUR := Aside0.mk (show CurAt wr cb (toC c) from HK.out.cur)
              have HBW := Aside0.mk HK.out.below
              clear HK
              generalize acc.map toC = ys at *
              generalize toC x = q1 at *
              generalize toC c = q2 at *
              go_wp2_with (first
                | (go_at_call 68; refine (HT.out _).mono ?_; rintro e v ⟨rfl, hb⟩
                   have B11 := Aside0.mk (blk_below (blk_new wr _) hb)
                   have k1 := below_step (below_alloc (Below.refl wr.heap.size wr) (.cells #[.iface q1.1.ty q1.1.pay, .iface q1.2.ty q1.2.pay, typV] 96)) hb
                   have HR1 := Aside0.mk (Kd.R_below HR0.out k1)
                   have HSRC1 := Aside0.mk (blk_below HSRC.out k1)
                   have HCUR1 := Aside0.mk (HCUR.out.below k1)
                   have HBW1 := Aside0.mk (below_step HBW.out k1)
                   obtain ⟨s0, s1, s2⟩ := HCUR1.out.at
                   have hv1 := blk_lt HCUR1.out
                   have hv2 : ¬ cb = v.heap.size := (by omega)
                   have hv3 := k1.size
                   have hv4 := blk_lt B11.out
                   clear hb u0 u1 u2' k1 HR0 HSRC HCUR HBW)
                | (go_at_call 64; refine (HE.out _).mono ?_; rintro e v5 ⟨rfl, hb⟩
                   have k1 := below_step (below_alloc (Below.refl v.heap.size v) (.cells #[.nilIface, .nilIface, .nilIface] 96)) hb
                   have B15 := Aside0.mk (blk_below B11.out k1)
                   have HR5 := Aside0.mk (Kd.R_below HR1.out k1)
                   have HSRC5 := Aside0.mk (blk_below HSRC1.out k1)
                   have HCUR5 := Aside0.mk (HCUR1.out.below k1)
                   have HBW5 := Aside0.mk (below_step HBW1.out k1)
                   have hs5 := HBW5.out.size
                   obtain ⟨a0, a1, a2⟩ := HCUR5.out.at
                   have hv5 := k1.size
                   clear hb k1 HR1 HSRC1 HCUR1 HBW1 B11 s0 s1 s2)
                | ((with_reducible refine gate_builtin (b := .append) (xs := #[.tmp 97, .tmp 99]) rfl ?_); at_builtin; go_loud (refine Kd.R_append kE (w0 := w) (W := v5) w.heap.size rfl (.tmp 97) (.tmp 99) 86 96 (.agg #[.nilIface, .nilIface, .nilIface]) 48 rfl Tryd.underlying86 info96 rfl (by decide) (by decide) (.slice A5 ys.length c5) ys q2 (eC q2) (fun b => b ≠ cb ∧ b ≠ g ∧ b ≠ wr.heap.size) (fun _ => False) rfl rfl rfl (fun z hz => hz.elim) (fun z hz => ⟨by omega, by omega, by omega⟩) HR5.out HBW5.out hs5 hla2 ?_; intro v1 w6 ho hb6 hg6 hat; clear hat; have HO6 := Aside0.mk ho; have HB6 := Aside0.mk hb6; have HG6 := Aside0.mk hg6; clear ho hb6 hg6; have hown := HR5.out.1; have C6 := Aside0.mk (show CurAt w6 cb q2 from (HG6.out.block cb (by omega) (fun e => (hown cb e.symm).1 rfl)).trans HCUR5.out); have G6 := Aside0.mk ((HG6.out.block g (by omega) (fun e => (hown g e.symm).2.1 rfl)).trans HSRC5.out); have X6 := (HG6.out.block wr.heap.size (by omega) (fun e => (hown wr.heap.size e.symm).2.2 rfl)).trans B15.out; obtain ⟨x0, x1, x2⟩ := cells3 X6; obtain ⟨s0, s1, s2⟩ := C6.out.at; have y0 := blk_frozen C6.out 0; have y1 := blk_frozen C6.out 1; have y2 := blk_frozen C6.out 2; clear hown X6 a0 a1 a2 HR5 HBW5 HSRC5 HCUR5 B15 HG6)))
              have HF3 := Aside0.mk ((show Kept w g cb L (acc ++ [c]) v1 q2 w6 from ⟨by rw [HMAP.out]; exact Kd.R_mono HO6.out (fun b hb => ⟨hb.1, hb.2.1⟩), HB6.out, G6.out, C6.out⟩).set hcb hgc q1)
              exact ⟨⟨j + 1, acc ++ [c], some x, by go_num, by omega, by simp; omega, fun _ => rfl, fun h => absurd h (by omega), HST2, ⟨fun c h => by cases h; exact XF⟩, ⟨by rw [← hq.out]; exact HF3.out⟩⟩, by simp [intOf]; omega⟩
        · obtain rfl : j = k := by omega
          obtain ⟨c, rfl⟩ : ∃ c, cur = some c := Option.isSome_iff_exists.1 (hsome (by omega))
          have hM : mergeS none L = acc ++ [c] := by have h := HM.out; rw [List.drop_eq_nil_of_le (by omega)] at h; exact h.symm
          have HSI : Aside0 (Simple (acc ++ [c]) l) := ⟨by rw [← hM]; simpa using HSim.out⟩
          have CF := HCF.out c rfl
          have HE : Aside0 (∀ W : World, Calls Tryd.prog 64 #[.agg #[.iface (toC c).1.ty (toC c).1.pay, .iface (toC c).2.ty (toC c).2.pay, typV]] W fun e w' => e = .returned (.tuple #[.bool false, .nilIface]) ∧ Below W.heap.size W w') := ⟨fun W => (decide_eq_false (full_ne CF)) ▸ isEmpty_ok (toC c).1 (toC c).2 W⟩
          have HMAP : Aside0 ((acc ++ [c]).map toC = acc.map toC ++ [toC c]) := ⟨by simp⟩
          have HLEN : Aside0 ((acc.map toC).length + 1 = (acc ++ [c]).length) := ⟨by simp⟩
          have hla2 : ((acc.map toC).length + 1) * 48 ≤ 140737488355328 := by rw [List.length_map]; omega
          obtain ⟨A5, c5, rfl⟩ := Kd.R_slice HK.out.row
          obtain ⟨u0, u1, u2'⟩ := (show CurAt wr cb (toC c) from HK.out.cur).at
          have HCUR := Aside0.mk (show CurAt wr cb (toC c) from HK.out.cur)
          have HR0 := Aside0.mk HK.out.row
          have HBW := Aside0.mk HK.out.below
          have hcbq := blk_lt HK.out.cur
          clear HK hM HM HSim HCF CF HLF hnone hsome hacc
          generalize acc.map toC = ys at *
          generalize toC c = q2 at *
          go_wp2_with (first
            | (go_at_call 64; refine (HE.out _).mono ?_; rintro e v5 ⟨rfl, hb⟩
               have HR5 := Aside0.mk (Kd.R_below HR0.out hb)
               have HCUR5 := Aside0.mk (HCUR.out.below hb)
               have HBW5 := Aside0.mk (below_step HBW.out hb)
               have hs5 := HBW5.out.size
               obtain ⟨a0, a1, a2⟩ := HCUR5.out.at
               have hv5 := hb.size
               clear hb u0 u1 u2' HR0 HCUR HBW)
            | ((with_reducible refine gate_builtin (b := .append) (xs := #[.tmp 113, .tmp 115]) rfl ?_); at_builtin; go_loud (refine Kd.R_append kE (w0 := w) (W := v5) w.heap.size rfl (.tmp 113) (.tmp 115) 86 96 (.agg #[.nilIface, .nilIface, .nilIface]) 48 rfl Tryd.underlying86 info96 rfl (by decide) (by decide) (.slice A5 ys.length c5) ys q2 (eC q2) (fun b => b ≠ cb ∧ b ≠ g) (fun _ => False) rfl rfl rfl (fun z hz => hz.elim) (fun z hz => ⟨by omega, by omega⟩) HR5.out HBW5.out hs5 hla2 ?_; intro v1 w6 ho hb6 hg6 hat; clear hat hg6; have HO6 := Aside0.mk ho; have HB6 := Aside0.mk hb6; clear ho hb6; obtain ⟨A7, c7, rfl⟩ := Kd.R_slice HO6.out)))
          go_ret2
          have hR := (Kd.R_reads' HO6.out).2.2
          rw [← HMAP.out, List.length_map] at hR
          exact ⟨A7, c7, acc ++ [c], by rw [← HLEN.out, show ys.length + 1 = (ys ++ [q2]).length by simp]; rfl, HSI.out, hR, HB6.out⟩
end Go.Proofs.YtlcoodjkolponaaDoor.PRR
namespace Go.Proofs.YtlcoodjkolponaaDoor.PRR
open Go.RowKit Go.Proofs.YtlcoodjkolponaaDoorW.PrintWords Go.Proofs.YtlcoodjkolponaaDoorW.PrintLast Go.Proofs.YtlcoodjkolponaaDoorW.PrintMore
open Go.Proofs.YtlcoodjkolponaaDoor.PRG (C cmpC typV keep_frozen ends_caught)
set_option linter.unusedVariables false
set_option linter.unusedSimpArgs false
set_option maxRecDepth 100000
set_option maxHeartbeats 4000000

theorem rgSimplify_ok (A0 : Option Addr) (c0 : Nat) (l : List S44) (h1 : 1 ≤ l.length) (h12 : l.length ≤ 12) (hf : ∀ x ∈ l, FullS x) (w : World) (hC : Kd.C k44 w A0 l.length l) :
    Calls Tryd.prog 45 #[.slice A0 l.length c0] w fun e w' => ∃ (A : Option Addr) (c : Nat) (out : List S44), e = .returned (.tuple #[.slice A out.length c, .bool true]) ∧ Simple out l ∧ out.length ≤ c ∧ Kd.C k44 w' A out.length out ∧ Below w.heap.size w w' := by
  have hl : (l.map toC).length = l.length := List.length_map ..
  have EA := Aside0.mk (fun W (hb : Below w.heap.size w W) => turned80_ok A0 c0 l (by omega) W (Kd.C_below hC hb))
  have ES := Aside0.mk (fun ad c W h => simplify_ok ad c l l.length rfl h1 h12 hf W h)
  have EB := Aside0.mk (fun (A : Option Addr) c (out : List S44) (ho : Simple out l) W (h : Kd.C kE W A out.length (out.map toC)) => turned81_ok A c out (by have := ho.few; omega) ho.full W h)
  have HL := Aside0.mk hl
  have h1' : 0 < (l.map toC).length := by omega
  generalize l.map toC = y at *
  generalize hn : l.length = n at *
  clear hC hl
  go_enter_defers Tryd.func45, Tryd.ntmps45
  go_wp2_with fail
  refine (EA.out _ (by repeat (first | (with_reducible exact Below.refl _ _) | (with_reducible apply below_alloc)))).mono ?_
  rintro e wa ⟨v1, rfl, hv1, hb1⟩
  have na : wa.cell? ⟨w.heap.size, 0, none⟩ = some (.bool false) := pw_cell_below hb1 (by simp [go_sem])
  have fa : wa.frozen? ⟨w.heap.size, 0, none⟩ = false := keep_frozen (v := .bool false) hb1 (by simp [go_sem]) (by simp [go_sem])
  have HB1 : Aside0 (Below w.heap.size w wa) := ⟨below_step (by repeat (first | (with_reducible exact Below.refl _ _) | (with_reducible apply below_alloc))) hb1⟩
  obtain ⟨ad, c2, rfl⟩ := Kd.R_slice1 hv1 h1'
  have HC1 := Aside0.mk (show Kd.C kE wa (some ad) n y by have h := (Kd.R_reads' hv1).2.2; rwa [HL.out] at h)
  rw [HL.out]
  have hz1 : w.heap.size < wa.heap.size := by have h := hb1.size; simp at h; omega
  clear hv1 hb1
  go_wp2_with fail
  refine (ES.out ad c2 _ HC1.out).mono ?_
  rintro e wb ⟨A3, c3, out, rfl, hso, hC3, hb2⟩
  have nb : wb.cell? ⟨w.heap.size, 0, none⟩ = some (.bool false) := pw_cell_below hb2 na
  have fb : wb.frozen? ⟨w.heap.size, 0, none⟩ = false := keep_frozen (v := .bool false) hb2 na fa
  have HB2 := Aside0.mk (below_step HB1.out hb2)
  have HSo := Aside0.mk hso
  have HT := Aside0.mk (EB.out A3 c3 out hso wb hC3)
  have hz2 : w.heap.size < wb.heap.size := by have h := hb2.size; omega
  clear hso hC3 hb2 na fa HC1 HB1
  go_wp2_with fail
  refine HT.out.mono ?_
  rintro e wc ⟨v4, rfl, hv4, hb3⟩
  have nc : wc.cell? ⟨w.heap.size, 0, none⟩ = some (.bool false) := pw_cell_below hb3 nb
  have fc : wc.frozen? ⟨w.heap.size, 0, none⟩ = false := keep_frozen (v := .bool false) hb3 nb fb
  have HB3 := Aside0.mk (below_step HB2.out hb3)
  obtain ⟨A5, c5, rfl⟩ := Kd.R_slice hv4
  have HV4 := Aside0.mk (Kd.R_reads' (Kd.R_far (p := ⟨w.heap.size, 0, none⟩) (Kd.R_bound hv4) (fun k hk => by have h := hk.2.1; show k ≠ w.heap.size; omega) (.bool true))).2
  clear nb fb hb3 HB2 HT hv4
  go_wp2
  exact ends_caught (v := .tuple #[.slice A5 out.length c5, .bool true]) (by simp [results, Tryd.results45, go_sem, nc]) ⟨_, _, _, rfl, HSo.out, HV4.out.1, HV4.out.2, HB3.out.setCell (by simp) _⟩
end Go.Proofs.YtlcoodjkolponaaDoor.PRR
