/-
  Contract of jsMade.value at an object. Condition: every byte is from 0 to 255; the contract at a value one deeper.
-/
import Derived.Test.YtlhaifbmacndeaaJSe
namespace Go.Proofs.Ytlhaifbmacndeaa.PJS
open Go.RowKit Go.Proofs.YtlhaifbmacndeaaW.PrintWords Go.Proofs.YtlhaifbmacndeaaW.PrintLast Go.Proofs.YtlhaifbmacndeaaW.PrintMore
set_option linter.unusedVariables false
set_option linter.unusedSimpArgs false
set_option maxRecDepth 100000
set_option maxHeartbeats 400000

theorem at_mem (s : ByteArray) (f0 f1 : Int) (f2 : ByteArray) (ns : List ByteArray) (xs : List S26) (hn : ns.length ≤ 1000) : ∀ (m i : Nat), ns.length = i + m → ∃ r, spec_JSAt.l0 (m + 1) s (i : Int) f0 f1 f2 ns xs = some r ∧ (0 ≤ r ↔ s ∈ ns.drop i) := by
  intro m
  induction m with
  | zero =>
    intro i hi
    refine ⟨-1, ?_, ?_⟩
    · unfold spec_JSAt.l0
      rw [if_neg (by omega)]
    · rw [List.drop_eq_nil_of_le (by omega)]
      simp
  | succ m ih =>
    intro i hi
    have hlt : i < ns.length := by omega
    have hget : rdOf ByteArray.empty ns (i : Int) = ns[i] := by
      unfold rdOf
      rw [Int.toNat_natCast, List.getD_eq_getElem?_getD, List.getElem?_eq_getElem hlt]
      rfl
    rw [List.drop_eq_getElem_cons hlt]
    unfold spec_JSAt.l0
    rw [if_pos (by omega), if_pos (by omega), hget]
    by_cases he : ns[i].toList = s.toList
    · rw [if_pos he]
      have : ns[i] = s := by
        rw [ByteArray.toList_eq, ByteArray.toList_eq] at he
        exact ByteArray.ext (Array.toList_inj.1 he)
      exact ⟨i, rfl, by simp [this]⟩
    · rw [if_neg he]
      have hw : wrap64 ((i : Int) + 1) = ((i + 1 : Nat) : Int) := by
        unfold wrap64
        omega
      rw [hw]
      obtain ⟨r, h1, h2⟩ := ih (i + 1) (by omega)
      refine ⟨r, h1, h2.trans ?_⟩
      rw [List.mem_cons]
      constructor
      · exact Or.inr
      · rintro (rfl | h)
        · exact absurd rfl he
        · exact h
/-- The index of a name: from 0 on, if it is there. -/
theorem at_ok (s : ByteArray) (f0 f1 : Int) (f2 : ByteArray) (A3 : Option Addr) (c3 : Nat) (ns : List ByteArray) (A4 : Option Addr) (c4 : Nat) (xs : List S26) (hn : ns.length ≤ 1000) : ∃ r : Int, (0 ≤ r ↔ s ∈ ns) ∧ ∀ w : World, Kd.C Kd.string w A3 ns.length ns → ns.length ≤ c3 → Kd.C k26 w A4 xs.length xs → xs.length ≤ c4 →
    Calls Try.prog 21 #[.agg #[.int .i64 f0, .int .i64 f1, .string f2, .slice A3 ns.length c3, .slice A4 xs.length c4], .string s] w fun e w' => e = .returned (.int .i64 r) ∧ Below w.heap.size w w' := by
  obtain ⟨r, h1, h2⟩ := at_mem s f0 f1 f2 ns xs hn ns.length 0 (by omega)
  exact ⟨r, h2, fun w a1 a2 a3 a4 => spec_JSAt.calls _ _ _ _ _ _ _ _ _ _ _ _ _ a1 a2 a3 a4 h1⟩

theorem R_shift {α : Type} {d : Kd α} {e : Nat} {W w1 : World} {base : Nat} {v v1 u : Value} {xs : List α} (h : d.R e W base (fun k => some k ≠ v.ownBlock) u xs) (hg : W.grownBy w1 v.ownBlock) (hat : v1.ownBlock = v.ownBlock ∨ ∃ b, v1.ownBlock = some b ∧ W.heap.size ≤ b) : d.R e w1 base (fun k => some k ≠ v1.ownBlock) u xs := by
  refine Kd.R_mono (Kd.R_grown (Kd.R_bound h) hg (fun k hk => hk.1)) (fun k hk => ?_)
  rcases hat with hat | ⟨b, hb, hle⟩
  · rw [hat]; exact hk.1
  · rw [hb]
    intro he
    have := Option.some.inj he
    have := hk.2.2.1
    omega
theorem infoS : (Try.prog.info? 9).map (fun i => (i.zero, i.size, i.bytes)) = some (some (.string ⟨#[]⟩), 1, 16) := by kernel_rfl
theorem value_obj (d : Int) (g : List Int → Int → S26 × List Int × Int) (hg : VOk (d + 1) g) (hd : 0 ≤ d ∧ d < 6) (b : Nat) (code : List Int) (left : Int) (w : World) (hM : Mk w b code left) (hc : okB code) (hl : 0 < wrap64 (left - 1)) (hk : 9 ≤ (byteF code).1 % 12 ∧ (byteF code).1 % 12 < 12) :
    Calls Try.prog 13 #[.pointer (some ⟨b, 0, none⟩), .int .i64 d] w (Says b w ((objV g code left).1, (objV g code left).2.1) (objV g code left).2.2) := by
  obtain ⟨x, c1, hF, hx, hc1, hB⟩ := byte_nat hc b (wrap64 (left - 1))
  obtain ⟨y0, d0, hG0, hy0, hd0, hB0⟩ := byte_nat hc1 b (wrap64 (left - 1))
  obtain ⟨hl0, hz0, hbw⟩ := hM.cells
  obtain ⟨hM1, hV1, hZ1⟩ := start hM
  have hA : objV g code left = (⟨5, 0, ⟨#[]⟩, (itemsO g (y0 % 5) d0 (wrap64 (left - 1)) [] []).1.1, (itemsO g (y0 % 5) d0 (wrap64 (left - 1)) [] []).1.2⟩, (itemsO g (y0 % 5) d0 (wrap64 (left - 1)) [] []).2) := by
    unfold objV
    simp only [hF, hG0]
    rfl
  rw [hF] at hk
  rw [hA]
  have HM1 := Aside0.mk hM1
  have HV1 := Aside0.mk hV1
  have HZ1 := Aside0.mk hZ1
  have HB := Aside0.mk hB
  have HB0 := Aside0.mk hB0
  have HC0 := Aside0.mk hd0
  have HG := Aside0.mk hg
  clear hM hc hc1 hF hM1 hV1 hZ1 hB hA hG0 hd0 hB0 hg
  have hp0 : (0 : Int) ≤ (y0 : Int) := by omega
  go_enter Try.func13, Try.ntmps13
  go_wp2_with fail
  refine (HB.out _ HM1.out).mono ?_
  rintro e w2 ⟨rfl, hM2, hm2⟩
  obtain ⟨hl2, -, hb2⟩ := hM2.cells
  have HV2 := Aside0.mk (HV1.out.trans hm2)
  have HZ2 := Aside0.mk (HZ1.out.mv hm2 hbw)
  have HM2 := Aside0.mk hM2
  clear hM2 hm2 HM1 HV1 HZ1 HB
  generalize wrap64 (left - 1) = l1 at *
  have e6 : decide (6 ≤ d) = false := decide_eq_false (by omega)
  have e7 : decide (l1 ≤ 0) = false := decide_eq_false (by omega)
  obtain ⟨K, hK⟩ : ∃ K : Int, (x : Int) % 12 = K := ⟨_, rfl⟩
  rw [hK] at hk
  have f0 : (K == 0) = false := by simp; omega
  have f1 : (K == 1) = false := by simp; omega
  have f4 : decide (K < 4) = false := decide_eq_false (by omega)
  have f6 : decide (K < 6) = false := decide_eq_false (by omega)
  have f9 : decide (9 ≤ K) = true := decide_eq_true (by omega)
  have hg7 : w.heap.size < w2.heap.size := by have := HZ2.out; exact blk_lt this
  generalize hgo : itemsO g (y0 % 5) d0 l1 [] [] = R at *
  go_wp2_with fail
  obtain ⟨hM3, hV3, hZ3, hX3⟩ := boxed HM2.out HV2.out HZ2.out hbw 5
  refine (HB0.out _ hM3).mono ?_
  rintro e w3 ⟨rfl, hM4, hm4⟩
  have HM4 := Aside0.mk hM4
  have HV4 := Aside0.mk (hV3.trans hm4)
  have HZ4 := Aside0.mk (hZ3.mv hm4 hbw)
  have HX4 := Aside0.mk (hX3.mv hm4 (by omega))
  have hs4 : w2.heap.size + 1 ≤ w3.heap.size := by have := hm4.1.size; simpa using this
  clear hM3 hV3 hZ3 hX3 hM4 hm4 HM2 HV2 HZ2 HB0 hl2
  generalize w2.heap.size = g7 at *
  go_wp2_with fail
  go_loopw [8] (fun n wr => ∃ (k : Nat) (c : List Int) (l : Int) (ns : List ByteArray) (xs : List S26) (v3 v4 : Value), n = .int .i64 (k : Int) ∧ k + ns.length ≤ 4 ∧ k + xs.length ≤ 4 ∧ Aside0 (itemsO g k c l ns xs = R) ∧ Aside0 (okB c) ∧ Aside0 (Mk wr b c l) ∧ Aside0 (Mv b w wr) ∧ Aside0 (Zr wr w.heap.size) ∧ Aside0 (Bx wr g7 5 v3 v4) ∧ Aside0 (Kd.R Kd.string 9 wr (g7 + 1) (fun _ => True) v3 ns) ∧ Aside0 (Kd.R k26 26 wr (g7 + 1) (fun k => some k ≠ v3.ownBlock) v4 xs) ∧ g7 + 1 ≤ wr.heap.size) (fun n _ => (intOf n).toNat)
  case atStart => exact ⟨y0 % 5, d0, l1, [], [], .slice none 0 0, .slice none 0 0, by rw [Int.natCast_emod]; rfl, by simp; omega, by simp; omega, ⟨hgo⟩, HC0, HM4, HV4, HZ4, HX4, ⟨Kd.R_nil _ _ _ _ _⟩, ⟨Kd.R_nil _ _ _ _ _⟩, hs4⟩
  case round =>
    obtain ⟨k, c, l, ns, xs, v3, v4, rfl, hkn, hkx, HI, HC, HM, HV, HZ, HX, HN, HR, hsz⟩ := hrel
    cases k with
    | zero =>
      have hE : ((ns, xs), c, l) = R := HI.out
      subst hE
      obtain ⟨x0, x3, x4, z3, z4⟩ := HX.out.cells
      obtain ⟨x1, x2⟩ := HX.out.cells2
      obtain ⟨⟨m0, m1, m2, m3, m4⟩, n0, n1, n2, n3, n4⟩ := HZ.out.cells
      obtain ⟨A3, k3, rfl⟩ := Kd.R_slice HN.out
      obtain ⟨A4, k4, rfl⟩ := Kd.R_slice HR.out
      go_wp2_with fail
      refine bodyPost_ret (results_cell_row rfl _ _ w.heap.size 26 #[.int .i64 5, .int .i64 0, .string ⟨#[]⟩, .slice A3 ns.length k3, .slice A4 xs.length k4] (0, 0) _ rfl (blk5 HZ.out _ _ _ _ _) Try.underlying26 rfl (by kernel_rfl)) rfl ?_
      refine ⟨_, rfl, ⟨_, _, rfl, ?_, ?_⟩, put5 ⟨HM.out, HV.out⟩ hbw (Nat.le_refl _) _ _ _ _ _⟩
      · exact Kd.R_lower (R_past5 HN.out (by omega) _ _ _ _ _) (by omega)
      · exact Kd.R_lower (R_past5 HR.out (by omega) _ _ _ _ _) (by omega)
    | succ k =>
      obtain ⟨x0, x3, x4, z3, z4⟩ := HX.out.cells
      have HW := Aside0.mk (fun W hW => word_ok b c l W hW HC.out)
      have HCw := Aside0.mk (wordF_ok HC.out)
      have hI3 := HI.out
      unfold itemsO at hI3
      have HI3 := Aside0.mk hI3
      clear hI3 HI HC
      generalize (wordF c).1 = s at *
      generalize (wordF c).2 = cw at *
      obtain ⟨A3, k3, rfl⟩ := Kd.R_slice HN.out
      obtain ⟨A4, k4, rfl⟩ := Kd.R_slice HR.out
      go_wp2_with fail
      refine (HW.out wr HM.out).mono ?_
      rintro e w4 ⟨rfl, hM4, hm4⟩
      have HM4' := Aside0.mk hM4
      have HV4' := Aside0.mk (HV.out.trans hm4)
      have HZ4' := Aside0.mk (HZ.out.mv hm4 hbw)
      have HX4' := Aside0.mk (HX.out.mv hm4 (by omega))
      have HN4 := Aside0.mk (R_mv HN.out hm4 (by omega))
      have HR4 := Aside0.mk (R_mv HR.out hm4 (by omega))
      have hs4' : g7 + 1 ≤ w4.heap.size := Nat.le_trans hsz hm4.1.size
      clear hM4 hm4 HM HV HZ HX HN HR x0 x3 x4 z3 z4 HW
      obtain ⟨x0, x3, x4, z3, z4⟩ := HX4'.out.cells
      obtain ⟨x1, x2⟩ := HX4'.out.cells2
      obtain ⟨r, hr, hAt⟩ := at_ok s 5 0 ⟨#[]⟩ A3 k3 ns A4 k4 xs (by omega)
      have HAt := Aside0.mk hAt
      clear hAt
      go_wp2_with fail
      refine (HAt.out w4 ?_ ?_ ?_ ?_).mono ?_
      · obtain ⟨A, c, he, hle, hC⟩ := Kd.R_reads HN4.out
        cases he
        exact hC
      · obtain ⟨A, c, he, hle, hC⟩ := Kd.R_reads HN4.out
        cases he
        exact hle
      · obtain ⟨A, c, he, hle, hC⟩ := Kd.R_reads HR4.out
        cases he
        exact hC
      · obtain ⟨A, c, he, hle, hC⟩ := Kd.R_reads HR4.out
        cases he
        exact hle
      rintro e w5 ⟨rfl, hb5⟩
      have hmv := Mv.of_below (b := b) (by omega) hb5
      have HM5 := Aside0.mk (HM4'.out.step (hb5.mono (by omega)))
      have HV5 := Aside0.mk (HV4'.out.trans hmv)
      have HZ5 := Aside0.mk (HZ4'.out.mv hmv hbw)
      have HX5 := Aside0.mk (HX4'.out.mv hmv (by omega))
      have HN5 := Aside0.mk (R_mv HN4.out hmv (by omega))
      have HR5 := Aside0.mk (R_mv HR4.out hmv (by omega))
      have hs5 : g7 + 1 ≤ w5.heap.size := Nat.le_trans hs4' hb5.size
      clear hb5 hmv HM4' HV4' HZ4' HX4' HN4 HR4 x0 x1 x2 x3 x4 z3 z4 HAt
      obtain ⟨x0, x3, x4, z3, z4⟩ := HX5.out.cells
      by_cases hin : s ∈ ns
      · have hr0 : decide (0 ≤ r) = true := decide_eq_true (hr.2 hin)
        have HI6 : Aside0 (itemsO g k cw l ns xs = R) := ⟨by have h := HI3.out; rwa [if_pos (.inl hin)] at h⟩
        clear HI3
        go_wp2_with fail
        go_roundw
        case rel => exact ⟨k, cw, l, ns, xs, _, _, by first | rfl | go_num, by omega, by omega, HI6, HCw, HM5, HV5, HZ5, HX5, HN5, HR5, hs5⟩
        case measure => simp [intOf]
      · have hr0 : decide (0 ≤ r) = false := decide_eq_false (fun h => hin (hr.1 h))
        cases hem : s.toList.isEmpty
        · have HI6 : Aside0 (itemsO g k (g cw l).2.1 (g cw l).2.2 (ns ++ [s]) (xs ++ [(g cw l).1]) = R) := ⟨by have h := HI3.out; rwa [if_neg (by rintro (h1 | h1); exact hin h1; rw [h1, ByteArray.toList_eq] at hem; exact absurd hem (by decide))] at h⟩
          clear HI3
          have hln : (ns.length + 1) * 16 ≤ 140737488355328 := by omega
          go_wp2_with ((with_reducible refine gate_builtin (b := .append) (xs := #[.tmp 97, .tmp 99]) rfl ?_); at_builtin; go_loud (refine Kd.R_append Kd.string (w0 := w5) (W := w5) (g7 + 1) rfl (.tmp 97) (.tmp 99) 23 9 (.string ⟨#[]⟩) 16 rfl Try.underlying23 infoS rfl (by decide) (by decide) (.slice A3 ns.length k3) ns s [.string s] (fun _ => True) (fun _ => False) rfl rfl rfl (fun z hz => hz.elim) (fun _ _ => trivial) HN5.out (Below.refl _ _) hs5 hln ?_; intro v1 w6 ho hb6 hg6 hat; have HR6 := Aside0.mk (R_shift HR5.out hg6 hat); clear hg6 hat; obtain ⟨A6, k6, rfl⟩ := Kd.R_slice ho; have HO6 := Aside0.mk ho; have HB6 := Aside0.mk hb6; have q3 := (hb6.cell (p := ⟨g7, 3, none⟩) (show g7 < g7 + 1 by omega)).trans x3; have p3 := (hb6.frozen (p := ⟨g7, 3, none⟩) (show g7 < g7 + 1 by omega)).trans z3; clear ho hb6))
          have hset := setG (w := w) (g := g7) ⟨Mk.step HM5.out (HB6.out.mono (by omega)), HV5.out.low HB6.out (by omega) (by omega)⟩ hb2 (by omega) 3 (.slice A6 (ns ++ [s]).length k6)
          have HM7 := Aside0.mk hset.1
          have HV7 := Aside0.mk hset.2
          have HX7 : Aside0 (Bx (w6.setCell ⟨g7, 3, none⟩ (.slice A6 (ns ++ [s]).length k6)) g7 5 (.slice A6 (ns ++ [s]).length k6) (.slice A4 xs.length k4)) := ⟨blk_put ((HB6.out.block g7 (by omega)).trans HX5.out) 3 _ rfl⟩
          have HZ7 : Aside0 (Zr (w6.setCell ⟨g7, 3, none⟩ (.slice A6 (ns ++ [s]).length k6)) w.heap.size) := ⟨(Below.heap_setCell _ _ _ _ (by show w.heap.size ≠ g7; omega)).trans ((HB6.out.block _ (by omega)).trans HZ5.out)⟩
          have HN7 := Aside0.mk (R_past (g := g7) HO6.out (by omega) 3 (.slice A6 (ns ++ [s]).length k6))
          have HR7 := Aside0.mk (R_past (g := g7) HR6.out (by omega) 3 (.slice A6 (ns ++ [s]).length k6))
          have hs7 : g7 + 1 ≤ (w6.setCell ⟨g7, 3, none⟩ (.slice A6 (ns ++ [s]).length k6)).heap.size := by have := HB6.out.size; simp [World.setCell]; omega
          have hln2 : (ns ++ [s]).length = ns.length + 1 := by simp
          have hnn : (ns ++ [s]).length ≤ 4 - k := by omega
          rw [hln2] at HM7 HV7 HX7 HZ7 HN7 HR7 hs7
          generalize hns : ns ++ [s] = ns' at *
          clear hset HB6 HO6 HX5 HZ5 HM5 HV5 HN5 HR5 HR6 x0 x3 x4 z3 z4 q3 p3
          generalize w6.setCell ⟨g7, 3, none⟩ (.slice A6 (ns.length + 1) k6) = wq at *
          obtain ⟨x0, x3, x4, z3, z4⟩ := HX7.out.cells
          have hwd : IntKind.i64.wrap (d + 1) = d + 1 := by unfold IntKind.wrap; simp [IntKind.bits, IntKind.signed]; omega
          have HS := Aside0.mk (HG.out.2 b cw l wq.drew HM7.out HCw.out)
          have HC2 := Aside0.mk (HG.out.1 cw l HCw.out)
          generalize (g cw l).2.1 = c' at *
          generalize (g cw l).2.2 = l' at *
          generalize (g cw l).1 = p at *
          clear HG
          have hlx : (xs.length + 1) * 80 ≤ 140737488355328 := by omega
          go_region_law (first
            | (refine goes_ Try.func13 (by kernel_rfl) rfl #[.pointer (some ⟨b, 0, none⟩), .int .i64 (d + 1)] (by rfl) rfl rfl (by (try simp only [List.map_toArray, List.map_cons, List.map_nil]); rfl) ?_; refine (HS.out).mono ?_; rintro e v5 ⟨v, rfl, ⟨v3', v4', rfl, hr3, hr4⟩, hM5, hV50⟩
               have hV5 : Mv b wq v5 := Mv.trans (Mv.drew b wq) hV50
               have s5 : v5.cell? ⟨g7, 4, none⟩ = some (.slice A4 xs.length k4) ∧ v5.frozen? ⟨g7, 4, none⟩ = false := ⟨(HX7.out.mv hV5 hb2).cells.2.2.1, (HX7.out.mv hV5 hb2).cells.2.2.2.2⟩
               obtain ⟨A3', k3', rfl⟩ := Kd.R_slice hr3
               obtain ⟨A4', k4', rfl⟩ := Kd.R_slice hr4
               have e5 := s5.1
               have z5 := s5.2
               obtain ⟨e5a, z5a⟩ := Wr.below s5 (below_alloc (Below.refl _ _) (.cells #[.int .i64 p.f0, .int .i64 p.f1, .string p.f2, .slice A3' p.f3.length k3', .slice A4' p.f4.length k4'] 26))
               obtain ⟨inner, hown⟩ := Kd.R_own HR7.out
               obtain ⟨inner3, hown3⟩ := Kd.R_own HN7.out
               have HP := Aside0.mk (k26_mkM v5 (g7 + 1) (fun k => some k ≠ (.slice A6 (ns.length + 1) k6 : Value).ownBlock ∧ some k ≠ (.slice A4 xs.length k4 : Value).ownBlock) p (Kd.R_mono (Kd.R_lower (Kd.R_new (W := wq) (Kd.R_new (W := wq) hr3 hown3) hown) hs7) (fun _ h => ⟨h.1.2, h.2⟩)) (Kd.R_mono (Kd.R_lower (Kd.R_new (W := wq) (Kd.R_new (W := wq) hr4 hown3) hown) hs7) (fun _ h => ⟨h.1.2, h.2⟩)))
               have HR5 := Aside0.mk (R_mv HR7.out hV5 (by omega))
               have HN5 := Aside0.mk (R_mv HN7.out hV5 (by omega))
               have HM5 := Aside0.mk hM5
               have HV5 := Aside0.mk (HV7.out.trans hV5)
               have HZ5 := Aside0.mk (HZ7.out.mv hV5 hbw)
               have HX5 := Aside0.mk (HX7.out.mv hV5 hb2)
               have hs5 : g7 + 1 ≤ v5.heap.size := Nat.le_trans hs7 hV5.1.size
               clear hr3 hr4 hM5 hV5 hV50 hown hown3
               refine ⟨_, rfl, ?_⟩)
            | (refine Kd.R_append_step k26 (w0 := v5) (g7 + 1) (by rfl) (.tmp 103) (.tmp 108) 24 26 (.agg #[.int .i64 0, .int .i64 0, .string ⟨#[]⟩, .slice none 0 0, .slice none 0 0]) 80 rfl Try.underlying24 info26 rfl (by decide) (by decide) (.slice A4 xs.length k4) xs p [.int .i64 p.f0, .int .i64 p.f1, .string p.f2, .slice A3' p.f3.length k3', .slice A4' p.f4.length k4'] (fun k => some k ≠ (.slice A6 (ns.length + 1) k6 : Value).ownBlock) (fun k => some k ≠ (.slice A6 (ns.length + 1) k6 : Value).ownBlock ∧ some k ≠ (.slice A4 xs.length k4 : Value).ownBlock) rfl rfl HP.out (fun k hk => hk) (fun k hk he => by have := Kd.R_lt HN5.out k he.symm; omega) HR5.out (Below.refl _ _) hs5 hlx ?_
               intro v1 v6 ho hb6 hg6 hat
               obtain ⟨A8, c8, rfl⟩ := Kd.R_slice ho
               have HN6 := Aside0.mk (Kd.R_over' HN5.out (Kd.R_typed HR5.out) (by decide) hg6)
               have e6a := (hb6.cell (p := ⟨g7, 4, none⟩) (show g7 < g7 + 1 by omega)).trans s5.1
               have z6a := (hb6.frozen (p := ⟨g7, 4, none⟩) (show g7 < g7 + 1 by omega)).trans s5.2
               clear hg6 hat s5 e5 z5 e5a z5a
               have HO6 := Aside0.mk ho
               have HB6 := Aside0.mk hb6
               clear ho hb6)
            | fail)
          all_goals
            clear e6a z6a
            have hset := setG (w := w) (g := g7) ⟨Mk.step HM5.out (HB6.out.mono (by omega)), HV5.out.low HB6.out (by omega) (by omega)⟩ hb2 (by omega) 4 (.slice A8 (xs ++ [p]).length c8)
            have HM8 := Aside0.mk hset.1
            have HV8 := Aside0.mk hset.2
            have HX8 : Aside0 (Bx (v6.setCell ⟨g7, 4, none⟩ (.slice A8 (xs ++ [p]).length c8)) g7 5 (.slice A6 (ns.length + 1) k6) (.slice A8 (xs ++ [p]).length c8)) := ⟨blk_put ((HB6.out.block g7 (by omega)).trans HX5.out) 4 _ rfl⟩
            have HZ8 : Aside0 (Zr (v6.setCell ⟨g7, 4, none⟩ (.slice A8 (xs ++ [p]).length c8)) w.heap.size) := ⟨(Below.heap_setCell _ _ _ _ (by show w.heap.size ≠ g7; omega)).trans ((HB6.out.block _ (by omega)).trans HZ5.out)⟩
            have HR8 := Aside0.mk (R_past (g := g7) HO6.out (by omega) 4 (.slice A8 (xs ++ [p]).length c8))
            have HN8 := Aside0.mk (R_past (g := g7) HN6.out (by omega) 4 (.slice A8 (xs ++ [p]).length c8))
            have hs8 : g7 + 1 ≤ (v6.setCell ⟨g7, 4, none⟩ (.slice A8 (xs ++ [p]).length c8)).heap.size := by have := HB6.out.size; simp [World.setCell]; omega
            have hlx2 : (xs ++ [p]).length = xs.length + 1 := by simp
            clear hset HB6 HO6 HX5 HZ5 HM5 HV5 HR5 HP HN5 HN6
            rw [hlx2] at HM8 HV8 HX8 HZ8 HR8 HN8 hs8
            go_wp2_with fail
            go_roundw
            case rel => exact ⟨k, c', l', ns', xs ++ [p], .slice A6 (ns.length + 1) k6, .slice A8 (xs.length + 1) c8, by first | rfl | go_num, by omega, by omega, HI6, HC2, HM8, HV8, HZ8, HX8, HN8, HR8, hs8⟩
            case measure => simp [intOf]
        · have HI6 : Aside0 (itemsO g k cw l ns xs = R) := ⟨by have h := HI3.out; rwa [if_pos (.inr (by
            have h2 : s.toList = [] := List.isEmpty_iff.1 hem
            rw [ByteArray.toList_eq] at h2
            exact ByteArray.ext (Array.toList_inj.1 h2)))] at h⟩
          clear HI3
          go_wp2_with fail
          go_roundw
          case rel => exact ⟨k, cw, l, ns, xs, _, _, by first | rfl | go_num, by omega, by omega, HI6, HCw, HM5, HV5, HZ5, HX5, HN5, HR5, hs5⟩
          case measure => simp [intOf]

end Go.Proofs.Ytlhaifbmacndeaa.PJS
