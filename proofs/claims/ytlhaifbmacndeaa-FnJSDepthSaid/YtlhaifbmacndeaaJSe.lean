/-
  Contract of jsMade.value at an array. Condition: every byte is from 0 to 255; the contract at a value one deeper.
-/
import Derived.Test.YtlhaifbmacndeaaJSc
import Derived.Deep.RegionHeld3
import Derived.Deep.RegionLaw
namespace Go.Proofs.Ytlhaifbmacndeaa.PJS
open Go.RowKit Go.Proofs.YtlhaifbmacndeaaW.PrintWords Go.Proofs.YtlhaifbmacndeaaW.PrintLast Go.Proofs.YtlhaifbmacndeaaW.PrintMore
set_option linter.unusedVariables false
set_option linter.unusedSimpArgs false
set_option maxRecDepth 100000
set_option maxHeartbeats 400000

def itemsA (g : List Int → Int → S26 × List Int × Int) : Nat → List Int → Int → List S26 → List S26 × List Int × Int
  | 0, c, l, xs => (xs, c, l)
  | n + 1, c, l, xs => itemsA g n (g c l).2.1 (g c l).2.2 (xs ++ [(g c l).1])
open Classical in
noncomputable def itemsO (g : List Int → Int → S26 × List Int × Int) : Nat → List Int → Int → List ByteArray → List S26 → (List ByteArray × List S26) × List Int × Int
  | 0, c, l, ns, xs => ((ns, xs), c, l)
  | n + 1, c, l, ns, xs => if (wordF c).1 ∈ ns ∨ (wordF c).1 = ⟨#[]⟩ then itemsO g n (wordF c).2 l ns xs else itemsO g n (g (wordF c).2 l).2.1 (g (wordF c).2 l).2.2 (ns ++ [(wordF c).1]) (xs ++ [(g (wordF c).2 l).1])
def leafV (K : Int) (c : List Int) (l : Int) : S26 × List Int × Int := ((leafF K (byteF c).2).1, (leafF K (byteF c).2).2, wrap64 (l - 1))
def arrV (g : List Int → Int → S26 × List Int × Int) (c : List Int) (l : Int) : S26 × List Int × Int :=
  let r := itemsA g ((byteF (byteF c).2).1 % 5).toNat (byteF (byteF c).2).2 (wrap64 (l - 1)) []
  (⟨4, 0, ⟨#[]⟩, [], r.1⟩, r.2)
noncomputable def objV (g : List Int → Int → S26 × List Int × Int) (c : List Int) (l : Int) : S26 × List Int × Int :=
  let r := itemsO g ((byteF (byteF c).2).1 % 5).toNat (byteF (byteF c).2).2 (wrap64 (l - 1)) [] []
  (⟨5, 0, ⟨#[]⟩, r.1.1, r.1.2⟩, r.2)
noncomputable def valF : Nat → List Int → Int → S26 × List Int × Int
  | 0, c, l => leafV ((byteF c).1 % 12 % 6) c l
  | f + 1, c, l => if wrap64 (l - 1) ≤ 0 then leafV ((byteF c).1 % 12 % 6) c l else if (byteF c).1 % 12 < 6 then leafV ((byteF c).1 % 12) c l else if (byteF c).1 % 12 < 9 then arrV (valF f) c l else objV (valF f) c l
/-- The contract, at a function. -/
def VOk (d : Int) (g : List Int → Int → S26 × List Int × Int) : Prop := (∀ c l, okB c → okB (g c l).2.1) ∧ ∀ (b : Nat) (code : List Int) (left : Int) (w : World), Mk w b code left → okB code →
    Calls Try.prog 13 #[.pointer (some ⟨b, 0, none⟩), .int .i64 d] w (Says b w ((g code left).1, (g code left).2.1) (g code left).2.2)
/-- The box of the value that is being made. -/
def Bx (w : World) (g : Nat) (k : Int) (v3 v4 : Value) : Prop := w.heap[g]? = some (.cells #[.int .i64 k, .int .i64 0, .string ⟨#[]⟩, v3, v4] 26 (0, 0))
theorem Bx.mv {w w1 : World} {g b : Nat} {k : Int} {v3 v4 : Value} (h : Bx w g k v3 v4) (hm : Mv b w w1) (hg : b < g) : Bx w1 g k v3 v4 := hm.2.blk h (by omega) (by simp)
theorem Bx.cells {w : World} {g : Nat} {k : Int} {v3 v4 : Value} (h : Bx w g k v3 v4) : w.cell? ⟨g, 0, none⟩ = some (.int .i64 k) ∧ w.cell? ⟨g, 3, none⟩ = some v3 ∧ w.cell? ⟨g, 4, none⟩ = some v4 ∧ w.frozen? ⟨g, 3, none⟩ = false ∧ w.frozen? ⟨g, 4, none⟩ = false :=
  ⟨by rw [Lib.cell_of_heap h]; rfl, by rw [Lib.cell_of_heap h]; rfl, by rw [Lib.cell_of_heap h]; rfl, Lib.frozen_of_heap h _, Lib.frozen_of_heap h _⟩
theorem Bx.cells2 {w : World} {g : Nat} {k : Int} {v3 v4 : Value} (h : Bx w g k v3 v4) : w.cell? ⟨g, 1, none⟩ = some (.int .i64 0) ∧ w.cell? ⟨g, 2, none⟩ = some (.string ⟨#[]⟩) :=
  ⟨by rw [Lib.cell_of_heap h]; rfl, by rw [Lib.cell_of_heap h]; rfl⟩
theorem Zr.cells {w : World} {g : Nat} (h : Zr w g) : (w.cell? ⟨g, 0, none⟩ = some (.int .i64 0) ∧ w.cell? ⟨g, 1, none⟩ = some (.int .i64 0) ∧ w.cell? ⟨g, 2, none⟩ = some (.string ⟨#[]⟩) ∧ w.cell? ⟨g, 3, none⟩ = some (.slice none 0 0) ∧ w.cell? ⟨g, 4, none⟩ = some (.slice none 0 0)) ∧
    w.frozen? ⟨g, 0, none⟩ = false ∧ w.frozen? ⟨g, 1, none⟩ = false ∧ w.frozen? ⟨g, 2, none⟩ = false ∧ w.frozen? ⟨g, 3, none⟩ = false ∧ w.frozen? ⟨g, 4, none⟩ = false :=
  ⟨⟨by rw [Lib.cell_of_heap h]; rfl, by rw [Lib.cell_of_heap h]; rfl, by rw [Lib.cell_of_heap h]; rfl, by rw [Lib.cell_of_heap h]; rfl, by rw [Lib.cell_of_heap h]; rfl⟩, Lib.frozen_of_heap h _, Lib.frozen_of_heap h _, Lib.frozen_of_heap h _, Lib.frozen_of_heap h _, Lib.frozen_of_heap h _⟩
/-- Rows that are no part of a box. -/
theorem R_past {α : Type} {d : Kd α} {e : Nat} {w : World} {base g : Nat} {ok : Nat → Prop} {v : Value} {xs : List α} (h : d.R e w base ok v xs) (hg : g < base) (j : Nat) (u : Value) : d.R e (w.setCell ⟨g, j, none⟩ u) base ok v xs :=
  Kd.R_mono (Kd.R_far (p := ⟨g, j, none⟩) (Kd.R_bound h) (fun k hk => by have := hk.2.1; show k ≠ g; omega) u) (fun _ hk => hk.1)
theorem R_past5 {α : Type} {d : Kd α} {e : Nat} {w : World} {base g : Nat} {ok : Nat → Prop} {v : Value} {xs : List α} (h : d.R e w base ok v xs) (hg : g < base) (u0 u1 u2 u3 u4 : Value) :
    d.R e (((((w.setCell ⟨g, 0, none⟩ u0).setCell ⟨g, 1, none⟩ u1).setCell ⟨g, 2, none⟩ u2).setCell ⟨g, 3, none⟩ u3).setCell ⟨g, 4, none⟩ u4) base ok v xs :=
  R_past (R_past (R_past (R_past (R_past h hg 0 u0) hg 1 u1) hg 2 u2) hg 3 u3) hg 4 u4
theorem info26 : (Try.prog.info? 26).map (fun i => (i.zero, i.size, i.bytes)) = some (some (.agg #[.int .i64 0, .int .i64 0, .string ⟨#[]⟩, .slice none 0 0, .slice none 0 0]), 5, 80) := by kernel_rfl
theorem R_mv {α : Type} {d : Kd α} {e : Nat} {w w1 : World} {base b : Nat} {ok : Nat → Prop} {v : Value} {xs : List α} (h : d.R e w base ok v xs) (hm : Mv b w w1) (hb : b < base) : d.R e w1 base ok v xs :=
  Kd.R_mono (Kd.R_keep (g := b) (Kd.R_bound h) hm.2 (fun k hk => by have := hk.2.1; omega)) (fun _ hk => hk.1)
theorem Mv.drew (b : Nat) (w : World) : Mv b w w.drew := ⟨below_drew (Below.refl b w), keep_drew (KeepBut.refl w b none)⟩
theorem Mv.low {b n : Nat} {w w1 w2 : World} (h : Mv b w w1) (k : Below n w1 w2) (hn : w.heap.size ≤ n) (hb : b < n) : Mv b w w2 :=
  ⟨h.1.trans (k.mono (by omega)), Nat.le_trans h.2.1 k.size, fun i hi hg hr => (k.block i (by omega)).trans (h.2.2 i hi hg hr)⟩

/-- A cell that may be written stays so behind an alloc, a draw. -/
def Wr (W : World) (a : Addr) (v : Value) : Prop := W.cell? a = some v ∧ W.frozen? a = false
theorem Wr.below {W W1 : World} {a : Addr} {v : Value} (h : W.cell? a = some v ∧ W.frozen? a = false) (hb : Below W.heap.size W W1) : W1.cell? a = some v ∧ W1.frozen? a = false := by
  have hlt := World.block_lt_of_cell? _ _ h.1
  exact ⟨(hb.cell hlt).trans h.1, (hb.frozen hlt).trans h.2⟩
theorem boxed {w w2 : World} {b : Nat} {c : List Int} {l : Int} (hM : Mk w2 b c l) (hV : Mv b w w2) (hZ : Zr w2 w.heap.size) (hb : b < w.heap.size) (k : Int) :
    Mk (w2.alloc (.cells #[.int .i64 k, .int .i64 0, .string ⟨#[]⟩, .slice none 0 0, .slice none 0 0] 26)) b c l ∧ Mv b w (w2.alloc (.cells #[.int .i64 k, .int .i64 0, .string ⟨#[]⟩, .slice none 0 0, .slice none 0 0] 26)) ∧
    Zr (w2.alloc (.cells #[.int .i64 k, .int .i64 0, .string ⟨#[]⟩, .slice none 0 0, .slice none 0 0] 26)) w.heap.size ∧ Bx (w2.alloc (.cells #[.int .i64 k, .int .i64 0, .string ⟨#[]⟩, .slice none 0 0, .slice none 0 0] 26)) w2.heap.size k (.slice none 0 0) (.slice none 0 0) := by
  have h7 : w.heap.size < w2.heap.size := blk_lt hZ
  have hb := below_alloc (Below.refl w2.heap.size w2) (.cells #[.int .i64 k, .int .i64 0, .string ⟨#[]⟩, .slice none 0 0, .slice none 0 0] 26)
  exact ⟨hM.step (hb.mono (by omega)), hV.trans (Mv.of_below (by omega) hb), (hb.block _ h7).trans hZ, heap_alloc_new _ _⟩

theorem value_arr (d : Int) (g : List Int → Int → S26 × List Int × Int) (hg : VOk (d + 1) g) (hd : 0 ≤ d ∧ d < 6) (b : Nat) (code : List Int) (left : Int) (w : World) (hM : Mk w b code left) (hc : okB code) (hl : 0 < wrap64 (left - 1)) (hk : 6 ≤ (byteF code).1 % 12 ∧ (byteF code).1 % 12 < 9) :
    Calls Try.prog 13 #[.pointer (some ⟨b, 0, none⟩), .int .i64 d] w (Says b w ((arrV g code left).1, (arrV g code left).2.1) (arrV g code left).2.2) := by
  obtain ⟨x, c1, hF, hx, hc1, hB⟩ := byte_nat hc b (wrap64 (left - 1))
  obtain ⟨y0, d0, hG0, hy0, hd0, hB0⟩ := byte_nat hc1 b (wrap64 (left - 1))
  obtain ⟨hl0, hz0, hbw⟩ := hM.cells
  obtain ⟨hM1, hV1, hZ1⟩ := start hM
  have hA : arrV g code left = (⟨4, 0, ⟨#[]⟩, [], (itemsA g (y0 % 5) d0 (wrap64 (left - 1)) []).1⟩, (itemsA g (y0 % 5) d0 (wrap64 (left - 1)) []).2) := by
    unfold arrV
    simp only [hF, hG0]
    rfl
  rw [hF] at hk
  rw [hA]
  have HM1 := Aside0.mk hM1
  have HV1 := Aside0.mk hV1
  have HZ1 := Aside0.mk hZ1
  have HB := Aside0.mk hB
  have HB0 := Aside0.mk hB0
  have HC0 := Aside0.mk hd0
  have HG := Aside0.mk hg
  clear hM hc hc1 hF hM1 hV1 hZ1 hB hA hG0 hd0 hB0 hg
  have hp0 : (0 : Int) ≤ (y0 : Int) := by omega
  go_enter Try.func13, Try.ntmps13
  go_wp2_with fail
  refine (HB.out _ HM1.out).mono ?_
  rintro e w2 ⟨rfl, hM2, hm2⟩
  obtain ⟨hl2, -, hb2⟩ := hM2.cells
  have HV2 := Aside0.mk (HV1.out.trans hm2)
  have HZ2 := Aside0.mk (HZ1.out.mv hm2 hbw)
  have HM2 := Aside0.mk hM2
  clear hM2 hm2 HM1 HV1 HZ1 HB
  generalize wrap64 (left - 1) = l1 at *
  have e6 : decide (6 ≤ d) = false := decide_eq_false (by omega)
  have e7 : decide (l1 ≤ 0) = false := decide_eq_false (by omega)
  obtain ⟨K, hK⟩ : ∃ K : Int, (x : Int) % 12 = K := ⟨_, rfl⟩
  rw [hK] at hk
  have f0 : (K == 0) = false := by simp; omega
  have f1 : (K == 1) = false := by simp; omega
  have f4 : decide (K < 4) = false := decide_eq_false (by omega)
  have f6 : decide (K < 6) = false := decide_eq_false (by omega)
  have f9 : decide (9 ≤ K) = false := decide_eq_false (by omega)
  have hg7 : w.heap.size < w2.heap.size := by have := HZ2.out; exact blk_lt this
  generalize hgo : itemsA g (y0 % 5) d0 l1 [] = R at *
  go_wp2_with fail
  obtain ⟨hM3, hV3, hZ3, hX3⟩ := boxed HM2.out HV2.out HZ2.out hbw 4
  refine (HB0.out _ hM3).mono ?_
  rintro e w3 ⟨rfl, hM4, hm4⟩
  have HM4 := Aside0.mk hM4
  have HV4 := Aside0.mk (hV3.trans hm4)
  have HZ4 := Aside0.mk (hZ3.mv hm4 hbw)
  have HX4 := Aside0.mk (hX3.mv hm4 (by omega))
  have hs4 : w2.heap.size + 1 ≤ w3.heap.size := by have := hm4.1.size; simpa using this
  clear hM3 hV3 hZ3 hX3 hM4 hm4 HM2 HV2 HZ2 HB0 hl2
  generalize w2.heap.size = g7 at *
  go_wp2_with fail
  go_loopw [8] (fun n wr => ∃ (k : Nat) (c : List Int) (l : Int) (xs : List S26) (v4 : Value), n = .int .i64 (k : Int) ∧ k + xs.length ≤ 4 ∧ Aside0 (itemsA g k c l xs = R) ∧ Aside0 (okB c) ∧ Aside0 (Mk wr b c l) ∧ Aside0 (Mv b w wr) ∧ Aside0 (Zr wr w.heap.size) ∧ Aside0 (Bx wr g7 4 (.slice none 0 0) v4) ∧ Aside0 (Kd.R k26 26 wr (g7 + 1) (fun _ => True) v4 xs) ∧ g7 + 1 ≤ wr.heap.size) (fun n _ => (intOf n).toNat)
  case atStart => exact ⟨y0 % 5, d0, l1, [], .slice none 0 0, by rw [Int.natCast_emod]; rfl, by simp; omega, ⟨hgo⟩, HC0, HM4, HV4, HZ4, HX4, ⟨Kd.R_nil _ _ _ _ _⟩, hs4⟩
  case round =>
    obtain ⟨k, c, l, xs, v4, rfl, hkx, HI, HC, HM, HV, HZ, HX, HR, hsz⟩ := hrel
    cases k with
    | zero =>
      have hE : (xs, c, l) = R := HI.out
      subst hE
      obtain ⟨x0, x3, x4, z3, z4⟩ := HX.out.cells
      obtain ⟨x1, x2⟩ := HX.out.cells2
      obtain ⟨⟨m0, m1, m2, m3, m4⟩, n0, n1, n2, n3, n4⟩ := HZ.out.cells
      obtain ⟨A4, k4, rfl⟩ := Kd.R_slice HR.out
      go_wp2_with fail
      refine bodyPost_ret (results_cell_row rfl _ _ w.heap.size 26 #[.int .i64 4, .int .i64 0, .string ⟨#[]⟩, .slice none 0 0, .slice A4 xs.length k4] (0, 0) _ rfl (blk5 HZ.out _ _ _ _ _) Try.underlying26 rfl (by kernel_rfl)) rfl ?_
      refine ⟨_, rfl, ⟨_, _, rfl, Kd.R_nil _ _ _ _ _, ?_⟩, put5 ⟨HM.out, HV.out⟩ hbw (Nat.le_refl _) _ _ _ _ _⟩
      exact Kd.R_mono (Kd.R_lower (R_past5 HR.out (by omega) _ _ _ _ _) (by omega)) (fun k _ => by simp [Value.ownBlock])
    | succ k =>
      obtain ⟨x0, x3, x4, z3, z4⟩ := HX.out.cells
      obtain ⟨A4, k4, rfl⟩ := Kd.R_slice HR.out
      have hwd : IntKind.i64.wrap (d + 1) = d + 1 := by unfold IntKind.wrap; simp [IntKind.bits, IntKind.signed]; omega
      have HS := Aside0.mk (HG.out.2 b c l wr.drew HM.out HC.out)
      have HC2 := Aside0.mk (HG.out.1 c l HC.out)
      have HI2 : Aside0 (itemsA g k (g c l).2.1 (g c l).2.2 (xs ++ [(g c l).1]) = R) := HI
      generalize (g c l).2.1 = c' at *
      generalize (g c l).2.2 = l' at *
      generalize (g c l).1 = p at *
      clear HI HG
      go_wp2_with fail
      have hlx : (xs.length + 1) * 80 ≤ 140737488355328 := by omega
      go_region_law (first
          | (refine goes_ Try.func13 (by kernel_rfl) rfl #[.pointer (some ⟨b, 0, none⟩), .int .i64 (d + 1)] (by rfl) rfl rfl (by (try simp only [List.map_toArray, List.map_cons, List.map_nil]); rfl) ?_; refine (HS.out).mono ?_; rintro e w5 ⟨v, rfl, ⟨v3', v4', rfl, hr3, hr4⟩, hM5, hV50⟩
             have hV5 : Mv b wr w5 := Mv.trans (Mv.drew b wr) hV50
             have s5 : w5.cell? ⟨g7, 4, none⟩ = some (.slice A4 xs.length k4) ∧ w5.frozen? ⟨g7, 4, none⟩ = false := ⟨(HX.out.mv hV5 hb2).cells.2.2.1, (HX.out.mv hV5 hb2).cells.2.2.2.2⟩
             obtain ⟨A3', k3', rfl⟩ := Kd.R_slice hr3
             obtain ⟨A4', k4', rfl⟩ := Kd.R_slice hr4
             have e5 := s5.1
             have z5 := s5.2
             obtain ⟨e5a, z5a⟩ := Wr.below s5 (below_alloc (Below.refl _ _) (.cells #[.int .i64 p.f0, .int .i64 p.f1, .string p.f2, .slice A3' p.f3.length k3', .slice A4' p.f4.length k4'] 26))
             obtain ⟨inner, hown⟩ := Kd.R_own HR.out
             have HP := Aside0.mk (k26_mkM w5 (g7 + 1) (fun k => some k ≠ (.slice A4 xs.length k4 : Value).ownBlock) p (Kd.R_mono (Kd.R_lower (Kd.R_new (W := wr) hr3 hown) hsz) (fun _ h => h.2)) (Kd.R_mono (Kd.R_lower (Kd.R_new (W := wr) hr4 hown) hsz) (fun _ h => h.2)))
             have HR5 := Aside0.mk (R_mv HR.out hV5 (by omega))
             have HM5 := Aside0.mk hM5
             have HV5 := Aside0.mk (HV.out.trans hV5)
             have HZ5 := Aside0.mk (HZ.out.mv hV5 hbw)
             have HX5 := Aside0.mk (HX.out.mv hV5 hb2)
             have hs5 : g7 + 1 ≤ w5.heap.size := Nat.le_trans hsz hV5.1.size
             clear hr3 hr4 hM5 hV5 hV50 hown
             refine ⟨_, rfl, ?_⟩)
          | (refine Kd.R_append_step k26 (w0 := w5) (g7 + 1) (by rfl) (.tmp 103) (.tmp 108) 24 26 (.agg #[.int .i64 0, .int .i64 0, .string ⟨#[]⟩, .slice none 0 0, .slice none 0 0]) 80 rfl Try.underlying24 info26 rfl (by decide) (by decide) (.slice A4 xs.length k4) xs p [.int .i64 p.f0, .int .i64 p.f1, .string p.f2, .slice A3' p.f3.length k3', .slice A4' p.f4.length k4'] (fun _ => True) (fun k => some k ≠ (.slice A4 xs.length k4 : Value).ownBlock) rfl rfl HP.out (fun k hk => ⟨trivial, hk⟩) (fun _ _ => trivial) HR5.out (Below.refl _ _) hs5 hlx ?_
             intro v1 w6 ho hb6 hg6 hat
             obtain ⟨A6, c6, rfl⟩ := Kd.R_slice ho
             have s6 : w6.cell? ⟨g7, 4, none⟩ = some (.slice A4 xs.length k4) ∧ w6.frozen? ⟨g7, 4, none⟩ = false := ⟨(hb6.cell (p := ⟨g7, 4, none⟩) (show g7 < g7 + 1 by omega)).trans s5.1, (hb6.frozen (p := ⟨g7, 4, none⟩) (show g7 < g7 + 1 by omega)).trans s5.2⟩
             have e6a := s6.1
             have z6a := s6.2
             clear hg6 hat s5 e5 z5 e5a z5a
             have HO6 := Aside0.mk ho
             have HB6 := Aside0.mk hb6
             clear ho hb6)
          | fail)
      all_goals
        clear s6 e6a z6a
        have hset := setG (w := w) (g := g7) ⟨Mk.step HM5.out (HB6.out.mono (by omega)), HV5.out.low HB6.out (by omega) (by omega)⟩ hb2 (by omega) 4 (.slice A6 (xs ++ [p]).length c6)
        have HM7 := Aside0.mk hset.1
        have HV7 := Aside0.mk hset.2
        have HX7 : Aside0 (Bx (w6.setCell ⟨g7, 4, none⟩ (.slice A6 (xs ++ [p]).length c6)) g7 4 (.slice none 0 0) (.slice A6 (xs ++ [p]).length c6)) := ⟨blk_put ((HB6.out.block g7 (by omega)).trans HX5.out) 4 _ rfl⟩
        have HZ7 : Aside0 (Zr (w6.setCell ⟨g7, 4, none⟩ (.slice A6 (xs ++ [p]).length c6)) w.heap.size) := ⟨(Below.heap_setCell _ _ _ _ (by show w.heap.size ≠ g7; omega)).trans ((HB6.out.block _ (by omega)).trans HZ5.out)⟩
        have HR7 := Aside0.mk (R_past (g := g7) HO6.out (by omega) 4 (.slice A6 (xs ++ [p]).length c6))
        have hs7 : g7 + 1 ≤ (w6.setCell ⟨g7, 4, none⟩ (.slice A6 (xs ++ [p]).length c6)).heap.size := by have := HB6.out.size; simp [World.setCell]; omega
        have hlx2 : (xs ++ [p]).length = xs.length + 1 := by simp
        clear hset HB6 HO6 HX5 HZ5 HM5 HV5 HR5 HP
        rw [hlx2] at HM7 HV7 HX7 HZ7 HR7 hs7
        go_wp2_with fail
        go_roundw
        case rel => exact ⟨k, c', l', xs ++ [p], .slice A6 (xs.length + 1) c6, by first | rfl | go_num, by omega, HI2, HC2, HM7, HV7, HZ7, HX7, HR7, hs7⟩
        case measure => simp [intOf]

end Go.Proofs.Ytlhaifbmacndeaa.PJS
