/-
  Contract of jsMade.value: the next value that some bytes are. Condition: every byte is from 0 to 255.
-/
import Derived.Test.YtlhaifbmacndeaaJSb
namespace Go.Proofs.Ytlhaifbmacndeaa.PJS
open Go.RowKit Go.Proofs.YtlhaifbmacndeaaW.PrintWords Go.Proofs.YtlhaifbmacndeaaW.PrintLast Go.Proofs.YtlhaifbmacndeaaW.PrintMore
set_option linter.unusedVariables false
set_option linter.unusedSimpArgs false
set_option maxRecDepth 100000
set_option maxHeartbeats 400000

def byte1 (c : List Int) : Int := (byteF c).1
def rest1 (c : List Int) : List Int := (byteF c).2
/-- a number of one byte, of four -/
def num1 (b : Int) : Int := wrap64 (IntKind.i8.wrap b)
def num4 (b b1 b2 b3 : Int) : Int := wrap64 (wrap64 (wrap64 (wrap64 (num1 b * 16777216) + b1 * 65536) + b2 * 256) + b3)
def leafF (k : Int) (c : List Int) : S26 × List Int :=
  if k = 0 then (z26, c)
  else if k = 1 then (⟨1, (byteF c).1 % 2, ⟨#[]⟩, [], []⟩, (byteF c).2)
  else if k = 2 then (⟨2, num1 (byteF c).1, ⟨#[]⟩, [], []⟩, (byteF c).2)
  else if k = 3 then (⟨2, num4 (byteF c).1 (byteF (byteF c).2).1 (byteF (byteF (byteF c).2).2).1 (byteF (byteF (byteF (byteF c).2).2).2).1, ⟨#[]⟩, [], []⟩, (byteF (byteF (byteF (byteF c).2).2).2).2)
  else (⟨3, 0, (wordF c).1, [], []⟩, (wordF c).2)
theorem wordF_ok {c : List Int} (h : okB c) : okB (wordF c).2 := wordL_ok _ _ _ (byteF_ok h).1
theorem leafF_ok {k : Int} {c : List Int} (h : okB c) : okB (leafF k c).2 := by
  unfold leafF
  have h1 := byteF_ok h
  have h2 := byteF_ok h1.1
  have h3 := byteF_ok h2.1
  have h4 := byteF_ok h3.1
  have h5 := wordF_ok h
  repeat' split
  all_goals first | exact h | exact h1.1 | exact h4.1 | exact h5
/-- The cells of a value, and what is of it in memory. -/
def Has (w : World) (base : Nat) (v : Value) (x : S26) : Prop := ∃ v3 v4, v = .agg #[.int .i64 x.f0, .int .i64 x.f1, .string x.f2, v3, v4] ∧ Kd.R Kd.string 9 w base (fun _ => True) v3 x.f3 ∧ Kd.R k26 26 w base (fun k => some k ≠ (v3 : Value).ownBlock) v4 x.f4
theorem Has.leaf (w : World) (base : Nat) (k n : Int) (s : ByteArray) : Has w base (.agg #[.int .i64 k, .int .i64 n, .string s, .slice none 0 0, .slice none 0 0]) ⟨k, n, s, [], []⟩ := ⟨_, _, rfl, Kd.R_nil _ _ _ _ _, Kd.R_nil _ _ _ _ _⟩
def headK (forced : Bool) (c : List Int) : Int := if forced then (byteF c).1 % 12 % 6 else (byteF c).1 % 12

theorem Mk.cells {w : World} {b : Nat} {code : List Int} {left : Int} (h : Mk w b code left) : w.cell? ⟨b, 1, none⟩ = some (.int .i64 left) ∧ w.frozen? ⟨b, 1, none⟩ = false ∧ b < w.heap.size := by
  obtain ⟨A, k, h1, _⟩ := h
  exact ⟨by rw [Lib.cell_of_heap h1]; rfl, Lib.frozen_of_heap h1 _, blk_lt h1⟩
/-- The box of the answer. -/
def Zr (w : World) (g : Nat) : Prop := w.heap[g]? = some (.cells #[.int .i64 0, .int .i64 0, .string ⟨#[]⟩, .slice none 0 0, .slice none 0 0] 26 (0, 0))
theorem Zr.mv {w w1 : World} {g b : Nat} (h : Zr w g) (hm : Mv b w w1) (hg : b < g) : Zr w1 g := hm.2.blk h (by omega) (by simp)
theorem start {w : World} {b : Nat} {code : List Int} {left : Int} (h : Mk w b code left) : 
    Mk ((w.setCell ⟨b, 1, none⟩ (.int .i64 (wrap64 (left - 1)))).alloc (.cells #[.int .i64 0, .int .i64 0, .string ⟨#[]⟩, .slice none 0 0, .slice none 0 0] 26)) b code (wrap64 (left - 1)) ∧
    Mv b w ((w.setCell ⟨b, 1, none⟩ (.int .i64 (wrap64 (left - 1)))).alloc (.cells #[.int .i64 0, .int .i64 0, .string ⟨#[]⟩, .slice none 0 0, .slice none 0 0] 26)) ∧
    Zr ((w.setCell ⟨b, 1, none⟩ (.int .i64 (wrap64 (left - 1)))).alloc (.cells #[.int .i64 0, .int .i64 0, .string ⟨#[]⟩, .slice none 0 0, .slice none 0 0] 26)) w.heap.size := by
  obtain ⟨A, k, h1, h2, h3, h4⟩ := h
  have hbw : b < w.heap.size := blk_lt h1
  have hs : (w.setCell ⟨b, 1, none⟩ (.int .i64 (wrap64 (left - 1)))).heap.size = w.heap.size := by simp [World.setCell]
  have hm : Mv b w (w.setCell ⟨b, 1, none⟩ (.int .i64 (wrap64 (left - 1)))) := ⟨(Below.refl b w).setCell (Nat.le_refl _) _, (KeepBut.refl w b none).set_ 1 _⟩
  have hM : Mk (w.setCell ⟨b, 1, none⟩ (.int .i64 (wrap64 (left - 1)))) b code (wrap64 (left - 1)) := by
    refine ⟨A, k, heap_set_at h1 1 _, h2, ?_, h4⟩
    have h5 := Kd.reads_of_C (d := (0 : Int)) h3
    refine Kd.C_of_reads (d := (0 : Int)) ⟨h5.1, h5.2.1, fun hn => ?_⟩
    obtain ⟨ad, e, hc⟩ := h5.2.2 hn
    have := h4 ad e hn
    exact ⟨ad, e, fun j hj => (hm.1.cell (p := ad.add j) (by rw [add_block]; omega)).trans (hc j hj)⟩
  generalize w.setCell ⟨b, 1, none⟩ (.int .i64 (wrap64 (left - 1))) = w1 at *
  have hb := below_alloc (Below.refl w1.heap.size w1) (.cells #[.int .i64 0, .int .i64 0, .string ⟨#[]⟩, .slice none 0 0, .slice none 0 0] 26)
  exact ⟨hM.step (hb.mono (by omega)), hm.trans (Mv.of_below (by omega) hb), by unfold Zr; rw [← hs]; exact heap_alloc_new _ _⟩
theorem setG {w wr : World} {b g : Nat} {code : List Int} {left : Int} (h : Mk wr b code left ∧ Mv b w wr) (hb : b < g) (hg : w.heap.size ≤ g) (j : Nat) (u : Value) : Mk (wr.setCell ⟨g, j, none⟩ u) b code left ∧ Mv b w (wr.setCell ⟨g, j, none⟩ u) :=
  ⟨h.1.step ((Below.refl (b + 1) wr).setCell (p := ⟨g, j, none⟩) (show b + 1 ≤ g by omega) _), h.2.1.setCell (p := ⟨g, j, none⟩) (show b ≤ g by omega) _, keep_far h.2.2 (p := ⟨g, j, none⟩) hg _⟩
theorem put5 {w wr : World} {b g : Nat} {code : List Int} {left : Int} (h : Mk wr b code left ∧ Mv b w wr) (hb : b < g) (hg : w.heap.size ≤ g) (u0 u1 u2 u3 u4 : Value) :
    Mk (((((wr.setCell ⟨g, 0, none⟩ u0).setCell ⟨g, 1, none⟩ u1).setCell ⟨g, 2, none⟩ u2).setCell ⟨g, 3, none⟩ u3).setCell ⟨g, 4, none⟩ u4) b code left ∧ Mv b w (((((wr.setCell ⟨g, 0, none⟩ u0).setCell ⟨g, 1, none⟩ u1).setCell ⟨g, 2, none⟩ u2).setCell ⟨g, 3, none⟩ u3).setCell ⟨g, 4, none⟩ u4) :=
  setG (setG (setG (setG (setG h hb hg 0 u0) hb hg 1 u1) hb hg 2 u2) hb hg 3 u3) hb hg 4 u4
theorem blk5 {w : World} {g : Nat} (h : w.heap[g]? = some (.cells #[.int .i64 0, .int .i64 0, .string ⟨#[]⟩, .slice none 0 0, .slice none 0 0] 26 (0, 0))) (u0 u1 u2 u3 u4 : Value) :
    (((((w.setCell ⟨g, 0, none⟩ u0).setCell ⟨g, 1, none⟩ u1).setCell ⟨g, 2, none⟩ u2).setCell ⟨g, 3, none⟩ u3).setCell ⟨g, 4, none⟩ u4).heap[g]? = some (.cells #[u0, u1, u2, u3, u4] 26 (0, 0)) :=
  blk_put (blk_put (blk_put (blk_put (blk_put h 0 u0 rfl) 1 u1 rfl) 2 u2 rfl) 3 u3 rfl) 4 u4 rfl
def Rule (j : Int) (d l1 x : Int) : Prop := (6 ≤ d ∧ x % 12 % 6 = j) ∨ (d < 6 ∧ l1 ≤ 0 ∧ x % 12 % 6 = j) ∨ (d < 6 ∧ 0 < l1 ∧ x % 12 = j)
/-- What the value's first part says. -/
def Says (b : Nat) (w : World) (r : S26 × List Int) (l1 : Int) (e : Ending) (w' : World) : Prop := ∃ v, e = .returned v ∧ Has w' w.heap.size v r.1 ∧ Mk w' b r.2 l1 ∧ Mv b w w'
theorem value_leaf0 (d : Int) (b : Nat) (code : List Int) (left : Int) (w : World) (hM : Mk w b code left) (hc : okB code) (hr : Rule 0 d (wrap64 (left - 1)) (byteF code).1) :
    Calls Try.prog 13 #[.pointer (some ⟨b, 0, none⟩), .int .i64 d] w (Says b w (leafF 0 (byteF code).2) (wrap64 (left - 1))) := by
  obtain ⟨x, c1, hF, hx, hc1, hB⟩ := byte_nat hc b (wrap64 (left - 1))
  obtain ⟨hl0, hz0, hbw⟩ := hM.cells
  obtain ⟨hM1, hV1, hZ1⟩ := start hM
  rw [hF] at hr ⊢
  have hL : leafF 0 c1 = ((⟨0, 0, (⟨#[]⟩ : ByteArray), [], []⟩ : S26), c1) := by
    unfold leafF
    simp [z26]
  simp only [hL] at hr ⊢
  have HM1 := Aside0.mk hM1
  have HV1 := Aside0.mk hV1
  have HZ1 := Aside0.mk hZ1
  have HB := Aside0.mk hB
  clear hM hc hc1 hF hM1 hV1 hZ1 hB hL 
  go_enter Try.func13, Try.ntmps13
  go_wp2_with fail
  refine (HB.out _ HM1.out).mono ?_
  rintro e w2 ⟨rfl, hM2, hm2⟩
  obtain ⟨hl2, -, hb2⟩ := hM2.cells
  have HV2 := Aside0.mk (HV1.out.trans hm2)
  have HZ2 := Aside0.mk (HZ1.out.mv hm2 hbw)
  have HM2 := Aside0.mk hM2
  clear hM2 hm2 HM1 HV1 HZ1 HB
  generalize wrap64 (left - 1) = l1 at *
  have hz3 := HZ2.out
  unfold Zr at hz3
  have k0 : w2.cell? ⟨w.heap.size, 0, none⟩ = some (.int .i64 0) := by rw [Lib.cell_of_heap hz3]; rfl
  have k1 : w2.cell? ⟨w.heap.size, 1, none⟩ = some (.int .i64 0) := by rw [Lib.cell_of_heap hz3]; rfl
  have k2 : w2.cell? ⟨w.heap.size, 2, none⟩ = some (.string ⟨#[]⟩) := by rw [Lib.cell_of_heap hz3]; rfl
  have k3 : w2.cell? ⟨w.heap.size, 3, none⟩ = some (.slice none 0 0) := by rw [Lib.cell_of_heap hz3]; rfl
  have k4 : w2.cell? ⟨w.heap.size, 4, none⟩ = some (.slice none 0 0) := by rw [Lib.cell_of_heap hz3]; rfl
  have hf0 : ∀ j, w2.frozen? ⟨w.heap.size, j, none⟩ = false := fun j => Lib.frozen_of_heap hz3 _
  have q0 := hf0 0
  have q1 := hf0 1
  have q2 := hf0 2
  have q3 := hf0 3
  have q4 := hf0 4
  clear hf0
  rcases hr with ⟨hd6, hj⟩ | ⟨hd6, hl6, hj⟩ | ⟨hd6, hl6, hj⟩
  case' inl => have e6 : decide (6 ≤ d) = true := decide_eq_true hd6
  case' inr.inl => have e6 : decide (6 ≤ d) = false := decide_eq_false (by omega)
  case' inr.inl => have e7 : decide (l1 ≤ 0) = true := decide_eq_true hl6
  case' inr.inr => have e6 : decide (6 ≤ d) = false := decide_eq_false (by omega)
  case' inr.inr => have e7 : decide (l1 ≤ 0) = false := decide_eq_false (by omega)
  all_goals
    go_wp2_with fail
    refine bodyPost_ret (results_cell_row rfl _ _ w.heap.size 26 #[.int .i64 0, .int .i64 0, .string (⟨#[]⟩ : ByteArray), .slice none 0 0, .slice none 0 0] (0, 0) _ rfl (by (try unfold num4 num1); exact blk5 HZ2.out _ _ _ _ _) Try.underlying26 rfl (by kernel_rfl)) rfl ?_
    (try unfold num4 num1); exact ⟨_, rfl, Has.leaf _ _ _ _ _, put5 ⟨HM2.out, HV2.out⟩ hbw (Nat.le_refl _) _ _ _ _ _⟩
theorem value_leaf1 (d : Int) (b : Nat) (code : List Int) (left : Int) (w : World) (hM : Mk w b code left) (hc : okB code) (hr : Rule 1 d (wrap64 (left - 1)) (byteF code).1) :
    Calls Try.prog 13 #[.pointer (some ⟨b, 0, none⟩), .int .i64 d] w (Says b w (leafF 1 (byteF code).2) (wrap64 (left - 1))) := by
  obtain ⟨x, c1, hF, hx, hc1, hB⟩ := byte_nat hc b (wrap64 (left - 1))
  obtain ⟨y0, d0, hG0, hy0, hd0, hB0⟩ := byte_nat hc1 b (wrap64 (left - 1))
  obtain ⟨hl0, hz0, hbw⟩ := hM.cells
  obtain ⟨hM1, hV1, hZ1⟩ := start hM
  rw [hF] at hr ⊢
  have hL : leafF 1 c1 = ((⟨1, ((y0 : Int) % 2), (⟨#[]⟩ : ByteArray), [], []⟩ : S26), d0) := by
    unfold leafF
    simp [hG0]
  simp only [hL] at hr ⊢
  have HM1 := Aside0.mk hM1
  have HV1 := Aside0.mk hV1
  have HZ1 := Aside0.mk hZ1
  have HB := Aside0.mk hB
  have HB0 := Aside0.mk hB0
  clear hM hc hc1 hF hM1 hV1 hZ1 hB hL hG0 hd0 hB0
  have hp0 : (0 : Int) ≤ (y0 : Int) := by omega
  go_enter Try.func13, Try.ntmps13
  go_wp2_with fail
  refine (HB.out _ HM1.out).mono ?_
  rintro e w2 ⟨rfl, hM2, hm2⟩
  obtain ⟨hl2, -, hb2⟩ := hM2.cells
  have HV2 := Aside0.mk (HV1.out.trans hm2)
  have HZ2 := Aside0.mk (HZ1.out.mv hm2 hbw)
  have HM2 := Aside0.mk hM2
  clear hM2 hm2 HM1 HV1 HZ1 HB
  generalize wrap64 (left - 1) = l1 at *
  rcases hr with ⟨hd6, hj⟩ | ⟨hd6, hl6, hj⟩ | ⟨hd6, hl6, hj⟩
  case' inl => have e6 : decide (6 ≤ d) = true := decide_eq_true hd6
  case' inr.inl => have e6 : decide (6 ≤ d) = false := decide_eq_false (by omega)
  case' inr.inl => have e7 : decide (l1 ≤ 0) = true := decide_eq_true hl6
  case' inr.inr => have e6 : decide (6 ≤ d) = false := decide_eq_false (by omega)
  case' inr.inr => have e7 : decide (l1 ≤ 0) = false := decide_eq_false (by omega)
  all_goals
    go_wp2_with fail
    refine (HB0.out _ HM2.out).mono ?_
    rintro e v0 ⟨rfl, hM3, hm3⟩
    have HM30 := Aside0.mk hM3
    have HV30 := Aside0.mk (HV2.out.trans hm3)
    have HZ30 := Aside0.mk (HZ2.out.mv hm3 hbw)
    clear hM3 hm3 HM2 HV2 HZ2
    have hz3 := HZ30.out
    unfold Zr at hz3
    have k0 : v0.cell? ⟨w.heap.size, 0, none⟩ = some (.int .i64 0) := by rw [Lib.cell_of_heap hz3]; rfl
    have k1 : v0.cell? ⟨w.heap.size, 1, none⟩ = some (.int .i64 0) := by rw [Lib.cell_of_heap hz3]; rfl
    have k2 : v0.cell? ⟨w.heap.size, 2, none⟩ = some (.string ⟨#[]⟩) := by rw [Lib.cell_of_heap hz3]; rfl
    have k3 : v0.cell? ⟨w.heap.size, 3, none⟩ = some (.slice none 0 0) := by rw [Lib.cell_of_heap hz3]; rfl
    have k4 : v0.cell? ⟨w.heap.size, 4, none⟩ = some (.slice none 0 0) := by rw [Lib.cell_of_heap hz3]; rfl
    have hf0 : ∀ j, v0.frozen? ⟨w.heap.size, j, none⟩ = false := fun j => Lib.frozen_of_heap hz3 _
    have q0 := hf0 0
    have q1 := hf0 1
    have q2 := hf0 2
    have q3 := hf0 3
    have q4 := hf0 4
    clear hf0 hz3
    go_wp2_with fail
    refine bodyPost_ret (results_cell_row rfl _ _ w.heap.size 26 #[.int .i64 1, .int .i64 ((y0 : Int) % 2), .string (⟨#[]⟩ : ByteArray), .slice none 0 0, .slice none 0 0] (0, 0) _ rfl (by (try unfold num4 num1); exact blk5 HZ30.out _ _ _ _ _) Try.underlying26 rfl (by kernel_rfl)) rfl ?_
    (try unfold num4 num1); exact ⟨_, rfl, Has.leaf _ _ _ _ _, put5 ⟨HM30.out, HV30.out⟩ hbw (Nat.le_refl _) _ _ _ _ _⟩
theorem value_leaf2 (d : Int) (b : Nat) (code : List Int) (left : Int) (w : World) (hM : Mk w b code left) (hc : okB code) (hr : Rule 2 d (wrap64 (left - 1)) (byteF code).1) :
    Calls Try.prog 13 #[.pointer (some ⟨b, 0, none⟩), .int .i64 d] w (Says b w (leafF 2 (byteF code).2) (wrap64 (left - 1))) := by
  obtain ⟨x, c1, hF, hx, hc1, hB⟩ := byte_nat hc b (wrap64 (left - 1))
  obtain ⟨y0, d0, hG0, hy0, hd0, hB0⟩ := byte_nat hc1 b (wrap64 (left - 1))
  obtain ⟨hl0, hz0, hbw⟩ := hM.cells
  obtain ⟨hM1, hV1, hZ1⟩ := start hM
  rw [hF] at hr ⊢
  have hL : leafF 2 c1 = ((⟨2, (num1 (y0 : Int)), (⟨#[]⟩ : ByteArray), [], []⟩ : S26), d0) := by
    unfold leafF
    simp [hG0]
  simp only [hL] at hr ⊢
  have HM1 := Aside0.mk hM1
  have HV1 := Aside0.mk hV1
  have HZ1 := Aside0.mk hZ1
  have HB := Aside0.mk hB
  have HB0 := Aside0.mk hB0
  clear hM hc hc1 hF hM1 hV1 hZ1 hB hL hG0 hd0 hB0
  have hp0 : (0 : Int) ≤ (y0 : Int) := by omega
  go_enter Try.func13, Try.ntmps13
  go_wp2_with fail
  refine (HB.out _ HM1.out).mono ?_
  rintro e w2 ⟨rfl, hM2, hm2⟩
  obtain ⟨hl2, -, hb2⟩ := hM2.cells
  have HV2 := Aside0.mk (HV1.out.trans hm2)
  have HZ2 := Aside0.mk (HZ1.out.mv hm2 hbw)
  have HM2 := Aside0.mk hM2
  clear hM2 hm2 HM1 HV1 HZ1 HB
  generalize wrap64 (left - 1) = l1 at *
  rcases hr with ⟨hd6, hj⟩ | ⟨hd6, hl6, hj⟩ | ⟨hd6, hl6, hj⟩
  case' inl => have e6 : decide (6 ≤ d) = true := decide_eq_true hd6
  case' inr.inl => have e6 : decide (6 ≤ d) = false := decide_eq_false (by omega)
  case' inr.inl => have e7 : decide (l1 ≤ 0) = true := decide_eq_true hl6
  case' inr.inr => have e6 : decide (6 ≤ d) = false := decide_eq_false (by omega)
  case' inr.inr => have e7 : decide (l1 ≤ 0) = false := decide_eq_false (by omega)
  all_goals
    go_wp2_with fail
    refine (HB0.out _ HM2.out).mono ?_
    rintro e v0 ⟨rfl, hM3, hm3⟩
    have HM30 := Aside0.mk hM3
    have HV30 := Aside0.mk (HV2.out.trans hm3)
    have HZ30 := Aside0.mk (HZ2.out.mv hm3 hbw)
    clear hM3 hm3 HM2 HV2 HZ2
    have hz3 := HZ30.out
    unfold Zr at hz3
    have k0 : v0.cell? ⟨w.heap.size, 0, none⟩ = some (.int .i64 0) := by rw [Lib.cell_of_heap hz3]; rfl
    have k1 : v0.cell? ⟨w.heap.size, 1, none⟩ = some (.int .i64 0) := by rw [Lib.cell_of_heap hz3]; rfl
    have k2 : v0.cell? ⟨w.heap.size, 2, none⟩ = some (.string ⟨#[]⟩) := by rw [Lib.cell_of_heap hz3]; rfl
    have k3 : v0.cell? ⟨w.heap.size, 3, none⟩ = some (.slice none 0 0) := by rw [Lib.cell_of_heap hz3]; rfl
    have k4 : v0.cell? ⟨w.heap.size, 4, none⟩ = some (.slice none 0 0) := by rw [Lib.cell_of_heap hz3]; rfl
    have hf0 : ∀ j, v0.frozen? ⟨w.heap.size, j, none⟩ = false := fun j => Lib.frozen_of_heap hz3 _
    have q0 := hf0 0
    have q1 := hf0 1
    have q2 := hf0 2
    have q3 := hf0 3
    have q4 := hf0 4
    clear hf0 hz3
    go_wp2_with fail
    refine bodyPost_ret (results_cell_row rfl _ _ w.heap.size 26 #[.int .i64 2, .int .i64 (num1 (y0 : Int)), .string (⟨#[]⟩ : ByteArray), .slice none 0 0, .slice none 0 0] (0, 0) _ rfl (by (try unfold num4 num1); exact blk5 HZ30.out _ _ _ _ _) Try.underlying26 rfl (by kernel_rfl)) rfl ?_
    (try unfold num4 num1); exact ⟨_, rfl, Has.leaf _ _ _ _ _, put5 ⟨HM30.out, HV30.out⟩ hbw (Nat.le_refl _) _ _ _ _ _⟩
theorem value_leaf3 (d : Int) (b : Nat) (code : List Int) (left : Int) (w : World) (hM : Mk w b code left) (hc : okB code) (hr : Rule 3 d (wrap64 (left - 1)) (byteF code).1) :
    Calls Try.prog 13 #[.pointer (some ⟨b, 0, none⟩), .int .i64 d] w (Says b w (leafF 3 (byteF code).2) (wrap64 (left - 1))) := by
  obtain ⟨x, c1, hF, hx, hc1, hB⟩ := byte_nat hc b (wrap64 (left - 1))
  obtain ⟨y0, d0, hG0, hy0, hd0, hB0⟩ := byte_nat hc1 b (wrap64 (left - 1))
  obtain ⟨y1, d1, hG1, hy1, hd1, hB1⟩ := byte_nat hd0 b (wrap64 (left - 1))
  obtain ⟨y2, d2, hG2, hy2, hd2, hB2⟩ := byte_nat hd1 b (wrap64 (left - 1))
  obtain ⟨y3, d3, hG3, hy3, hd3, hB3⟩ := byte_nat hd2 b (wrap64 (left - 1))
  obtain ⟨hl0, hz0, hbw⟩ := hM.cells
  obtain ⟨hM1, hV1, hZ1⟩ := start hM
  rw [hF] at hr ⊢
  have hL : leafF 3 c1 = ((⟨2, (num4 (y0 : Int) (y1 : Int) (y2 : Int) (y3 : Int)), (⟨#[]⟩ : ByteArray), [], []⟩ : S26), d3) := by
    unfold leafF
    simp [hG0, hG1, hG2, hG3]
  simp only [hL] at hr ⊢
  have HM1 := Aside0.mk hM1
  have HV1 := Aside0.mk hV1
  have HZ1 := Aside0.mk hZ1
  have HB := Aside0.mk hB
  have HB0 := Aside0.mk hB0
  have HB1 := Aside0.mk hB1
  have HB2 := Aside0.mk hB2
  have HB3 := Aside0.mk hB3
  clear hM hc hc1 hF hM1 hV1 hZ1 hB hL hG0 hd0 hB0 hG1 hd1 hB1 hG2 hd2 hB2 hG3 hd3 hB3
  have hp0 : (0 : Int) ≤ (y0 : Int) := by omega
  have hp1 : (0 : Int) ≤ (y1 : Int) := by omega
  have hp2 : (0 : Int) ≤ (y2 : Int) := by omega
  have hp3 : (0 : Int) ≤ (y3 : Int) := by omega
  go_enter Try.func13, Try.ntmps13
  go_wp2_with fail
  refine (HB.out _ HM1.out).mono ?_
  rintro e w2 ⟨rfl, hM2, hm2⟩
  obtain ⟨hl2, -, hb2⟩ := hM2.cells
  have HV2 := Aside0.mk (HV1.out.trans hm2)
  have HZ2 := Aside0.mk (HZ1.out.mv hm2 hbw)
  have HM2 := Aside0.mk hM2
  clear hM2 hm2 HM1 HV1 HZ1 HB
  generalize wrap64 (left - 1) = l1 at *
  rcases hr with ⟨hd6, hj⟩ | ⟨hd6, hl6, hj⟩ | ⟨hd6, hl6, hj⟩
  case' inl => have e6 : decide (6 ≤ d) = true := decide_eq_true hd6
  case' inr.inl => have e6 : decide (6 ≤ d) = false := decide_eq_false (by omega)
  case' inr.inl => have e7 : decide (l1 ≤ 0) = true := decide_eq_true hl6
  case' inr.inr => have e6 : decide (6 ≤ d) = false := decide_eq_false (by omega)
  case' inr.inr => have e7 : decide (l1 ≤ 0) = false := decide_eq_false (by omega)
  all_goals
    go_wp2_with fail
    refine (HB0.out _ HM2.out).mono ?_
    rintro e v0 ⟨rfl, hM3, hm3⟩
    have HM30 := Aside0.mk hM3
    have HV30 := Aside0.mk (HV2.out.trans hm3)
    have HZ30 := Aside0.mk (HZ2.out.mv hm3 hbw)
    clear hM3 hm3 HM2 HV2 HZ2
    go_wp2_with fail
    refine (HB1.out _ HM30.out).mono ?_
    rintro e v1 ⟨rfl, hM3, hm3⟩
    have HM31 := Aside0.mk hM3
    have HV31 := Aside0.mk (HV30.out.trans hm3)
    have HZ31 := Aside0.mk (HZ30.out.mv hm3 hbw)
    clear hM3 hm3 HM30 HV30 HZ30
    go_wp2_with fail
    refine (HB2.out _ HM31.out).mono ?_
    rintro e v2 ⟨rfl, hM3, hm3⟩
    have HM32 := Aside0.mk hM3
    have HV32 := Aside0.mk (HV31.out.trans hm3)
    have HZ32 := Aside0.mk (HZ31.out.mv hm3 hbw)
    clear hM3 hm3 HM31 HV31 HZ31
    go_wp2_with fail
    refine (HB3.out _ HM32.out).mono ?_
    rintro e v3 ⟨rfl, hM3, hm3⟩
    have HM33 := Aside0.mk hM3
    have HV33 := Aside0.mk (HV32.out.trans hm3)
    have HZ33 := Aside0.mk (HZ32.out.mv hm3 hbw)
    clear hM3 hm3 HM32 HV32 HZ32
    have hz3 := HZ33.out
    unfold Zr at hz3
    have k0 : v3.cell? ⟨w.heap.size, 0, none⟩ = some (.int .i64 0) := by rw [Lib.cell_of_heap hz3]; rfl
    have k1 : v3.cell? ⟨w.heap.size, 1, none⟩ = some (.int .i64 0) := by rw [Lib.cell_of_heap hz3]; rfl
    have k2 : v3.cell? ⟨w.heap.size, 2, none⟩ = some (.string ⟨#[]⟩) := by rw [Lib.cell_of_heap hz3]; rfl
    have k3 : v3.cell? ⟨w.heap.size, 3, none⟩ = some (.slice none 0 0) := by rw [Lib.cell_of_heap hz3]; rfl
    have k4 : v3.cell? ⟨w.heap.size, 4, none⟩ = some (.slice none 0 0) := by rw [Lib.cell_of_heap hz3]; rfl
    have hf0 : ∀ j, v3.frozen? ⟨w.heap.size, j, none⟩ = false := fun j => Lib.frozen_of_heap hz3 _
    have q0 := hf0 0
    have q1 := hf0 1
    have q2 := hf0 2
    have q3 := hf0 3
    have q4 := hf0 4
    clear hf0 hz3
    go_wp2_with fail
    refine bodyPost_ret (results_cell_row rfl _ _ w.heap.size 26 #[.int .i64 2, .int .i64 (num4 (y0 : Int) (y1 : Int) (y2 : Int) (y3 : Int)), .string (⟨#[]⟩ : ByteArray), .slice none 0 0, .slice none 0 0] (0, 0) _ rfl (by (try unfold num4 num1); exact blk5 HZ33.out _ _ _ _ _) Try.underlying26 rfl (by kernel_rfl)) rfl ?_
    (try unfold num4 num1); exact ⟨_, rfl, Has.leaf _ _ _ _ _, put5 ⟨HM33.out, HV33.out⟩ hbw (Nat.le_refl _) _ _ _ _ _⟩
theorem value_leaf4 (d : Int) (b : Nat) (code : List Int) (left : Int) (w : World) (hM : Mk w b code left) (hc : okB code) (hr : Rule 4 d (wrap64 (left - 1)) (byteF code).1) :
    Calls Try.prog 13 #[.pointer (some ⟨b, 0, none⟩), .int .i64 d] w (Says b w (leafF 4 (byteF code).2) (wrap64 (left - 1))) := by
  obtain ⟨x, c1, hF, hx, hc1, hB⟩ := byte_nat hc b (wrap64 (left - 1))
  have hW := fun W hW => word_ok b c1 (wrap64 (left - 1)) W hW hc1
  obtain ⟨hl0, hz0, hbw⟩ := hM.cells
  obtain ⟨hM1, hV1, hZ1⟩ := start hM
  rw [hF] at hr ⊢
  have hL : leafF 4 c1 = ((⟨3, 0, (wordF c1).1, [], []⟩ : S26), (wordF c1).2) := by
    unfold leafF
    simp [z26]
  simp only [hL] at hr ⊢
  generalize wordF c1 = R at *
  have HM1 := Aside0.mk hM1
  have HV1 := Aside0.mk hV1
  have HZ1 := Aside0.mk hZ1
  have HB := Aside0.mk hB
  have HW := Aside0.mk hW
  clear hM hc hc1 hF hM1 hV1 hZ1 hB hL hW
  go_enter Try.func13, Try.ntmps13
  go_wp2_with fail
  refine (HB.out _ HM1.out).mono ?_
  rintro e w2 ⟨rfl, hM2, hm2⟩
  obtain ⟨hl2, -, hb2⟩ := hM2.cells
  have HV2 := Aside0.mk (HV1.out.trans hm2)
  have HZ2 := Aside0.mk (HZ1.out.mv hm2 hbw)
  have HM2 := Aside0.mk hM2
  clear hM2 hm2 HM1 HV1 HZ1 HB
  generalize wrap64 (left - 1) = l1 at *
  rcases hr with ⟨hd6, hj⟩ | ⟨hd6, hl6, hj⟩ | ⟨hd6, hl6, hj⟩
  case' inl => have e6 : decide (6 ≤ d) = true := decide_eq_true hd6
  case' inr.inl => have e6 : decide (6 ≤ d) = false := decide_eq_false (by omega)
  case' inr.inl => have e7 : decide (l1 ≤ 0) = true := decide_eq_true hl6
  case' inr.inr => have e6 : decide (6 ≤ d) = false := decide_eq_false (by omega)
  case' inr.inr => have e7 : decide (l1 ≤ 0) = false := decide_eq_false (by omega)
  all_goals
    go_wp2_with fail
    refine (HW.out _ HM2.out).mono ?_
    rintro e v0 ⟨rfl, hM3, hm3⟩
    have HM30 := Aside0.mk hM3
    have HV30 := Aside0.mk (HV2.out.trans hm3)
    have HZ30 := Aside0.mk (HZ2.out.mv hm3 hbw)
    clear hM3 hm3 HM2 HV2 HZ2
    have hz3 := HZ30.out
    unfold Zr at hz3
    have k0 : v0.cell? ⟨w.heap.size, 0, none⟩ = some (.int .i64 0) := by rw [Lib.cell_of_heap hz3]; rfl
    have k1 : v0.cell? ⟨w.heap.size, 1, none⟩ = some (.int .i64 0) := by rw [Lib.cell_of_heap hz3]; rfl
    have k2 : v0.cell? ⟨w.heap.size, 2, none⟩ = some (.string ⟨#[]⟩) := by rw [Lib.cell_of_heap hz3]; rfl
    have k3 : v0.cell? ⟨w.heap.size, 3, none⟩ = some (.slice none 0 0) := by rw [Lib.cell_of_heap hz3]; rfl
    have k4 : v0.cell? ⟨w.heap.size, 4, none⟩ = some (.slice none 0 0) := by rw [Lib.cell_of_heap hz3]; rfl
    have hf0 : ∀ j, v0.frozen? ⟨w.heap.size, j, none⟩ = false := fun j => Lib.frozen_of_heap hz3 _
    have q0 := hf0 0
    have q1 := hf0 1
    have q2 := hf0 2
    have q3 := hf0 3
    have q4 := hf0 4
    clear hf0 hz3
    go_wp2_with fail
    refine bodyPost_ret (results_cell_row rfl _ _ w.heap.size 26 #[.int .i64 3, .int .i64 0, .string R.1, .slice none 0 0, .slice none 0 0] (0, 0) _ rfl (by (try unfold num4 num1); exact blk5 HZ30.out _ _ _ _ _) Try.underlying26 rfl (by kernel_rfl)) rfl ?_
    (try unfold num4 num1); exact ⟨_, rfl, Has.leaf _ _ _ _ _, put5 ⟨HM30.out, HV30.out⟩ hbw (Nat.le_refl _) _ _ _ _ _⟩
theorem value_leaf5 (d : Int) (b : Nat) (code : List Int) (left : Int) (w : World) (hM : Mk w b code left) (hc : okB code) (hr : Rule 5 d (wrap64 (left - 1)) (byteF code).1) :
    Calls Try.prog 13 #[.pointer (some ⟨b, 0, none⟩), .int .i64 d] w (Says b w (leafF 5 (byteF code).2) (wrap64 (left - 1))) := by
  obtain ⟨x, c1, hF, hx, hc1, hB⟩ := byte_nat hc b (wrap64 (left - 1))
  have hW := fun W hW => word_ok b c1 (wrap64 (left - 1)) W hW hc1
  obtain ⟨hl0, hz0, hbw⟩ := hM.cells
  obtain ⟨hM1, hV1, hZ1⟩ := start hM
  rw [hF] at hr ⊢
  have hL : leafF 5 c1 = ((⟨3, 0, (wordF c1).1, [], []⟩ : S26), (wordF c1).2) := by
    unfold leafF
    simp [z26]
  simp only [hL] at hr ⊢
  generalize wordF c1 = R at *
  have HM1 := Aside0.mk hM1
  have HV1 := Aside0.mk hV1
  have HZ1 := Aside0.mk hZ1
  have HB := Aside0.mk hB
  have HW := Aside0.mk hW
  clear hM hc hc1 hF hM1 hV1 hZ1 hB hL hW
  go_enter Try.func13, Try.ntmps13
  go_wp2_with fail
  refine (HB.out _ HM1.out).mono ?_
  rintro e w2 ⟨rfl, hM2, hm2⟩
  obtain ⟨hl2, -, hb2⟩ := hM2.cells
  have HV2 := Aside0.mk (HV1.out.trans hm2)
  have HZ2 := Aside0.mk (HZ1.out.mv hm2 hbw)
  have HM2 := Aside0.mk hM2
  clear hM2 hm2 HM1 HV1 HZ1 HB
  generalize wrap64 (left - 1) = l1 at *
  rcases hr with ⟨hd6, hj⟩ | ⟨hd6, hl6, hj⟩ | ⟨hd6, hl6, hj⟩
  case' inl => have e6 : decide (6 ≤ d) = true := decide_eq_true hd6
  case' inr.inl => have e6 : decide (6 ≤ d) = false := decide_eq_false (by omega)
  case' inr.inl => have e7 : decide (l1 ≤ 0) = true := decide_eq_true hl6
  case' inr.inr => have e6 : decide (6 ≤ d) = false := decide_eq_false (by omega)
  case' inr.inr => have e7 : decide (l1 ≤ 0) = false := decide_eq_false (by omega)
  all_goals
    go_wp2_with fail
    refine (HW.out _ HM2.out).mono ?_
    rintro e v0 ⟨rfl, hM3, hm3⟩
    have HM30 := Aside0.mk hM3
    have HV30 := Aside0.mk (HV2.out.trans hm3)
    have HZ30 := Aside0.mk (HZ2.out.mv hm3 hbw)
    clear hM3 hm3 HM2 HV2 HZ2
    have hz3 := HZ30.out
    unfold Zr at hz3
    have k0 : v0.cell? ⟨w.heap.size, 0, none⟩ = some (.int .i64 0) := by rw [Lib.cell_of_heap hz3]; rfl
    have k1 : v0.cell? ⟨w.heap.size, 1, none⟩ = some (.int .i64 0) := by rw [Lib.cell_of_heap hz3]; rfl
    have k2 : v0.cell? ⟨w.heap.size, 2, none⟩ = some (.string ⟨#[]⟩) := by rw [Lib.cell_of_heap hz3]; rfl
    have k3 : v0.cell? ⟨w.heap.size, 3, none⟩ = some (.slice none 0 0) := by rw [Lib.cell_of_heap hz3]; rfl
    have k4 : v0.cell? ⟨w.heap.size, 4, none⟩ = some (.slice none 0 0) := by rw [Lib.cell_of_heap hz3]; rfl
    have hf0 : ∀ j, v0.frozen? ⟨w.heap.size, j, none⟩ = false := fun j => Lib.frozen_of_heap hz3 _
    have q0 := hf0 0
    have q1 := hf0 1
    have q2 := hf0 2
    have q3 := hf0 3
    have q4 := hf0 4
    clear hf0 hz3
    go_wp2_with fail
    refine bodyPost_ret (results_cell_row rfl _ _ w.heap.size 26 #[.int .i64 3, .int .i64 0, .string R.1, .slice none 0 0, .slice none 0 0] (0, 0) _ rfl (by (try unfold num4 num1); exact blk5 HZ30.out _ _ _ _ _) Try.underlying26 rfl (by kernel_rfl)) rfl ?_
    (try unfold num4 num1); exact ⟨_, rfl, Has.leaf _ _ _ _ _, put5 ⟨HM30.out, HV30.out⟩ hbw (Nat.le_refl _) _ _ _ _ _⟩

end Go.Proofs.Ytlhaifbmacndeaa.PJS
