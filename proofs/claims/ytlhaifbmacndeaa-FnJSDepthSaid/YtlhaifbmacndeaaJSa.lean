/-
  Contract of laws.jsOf: the value that some bytes are. Condition: every byte is from 0 to 255.
-/
import Derived.Test.YtlhaifbmacndeaaJSf
namespace Go.Proofs.Ytlhaifbmacndeaa.PJS
open Go.RowKit Go.Proofs.YtlhaifbmacndeaaW.PrintWords Go.Proofs.YtlhaifbmacndeaaW.PrintLast Go.Proofs.YtlhaifbmacndeaaW.PrintMore
set_option linter.unusedVariables false
set_option linter.unusedSimpArgs false
set_option maxRecDepth 100000
set_option maxHeartbeats 400000

theorem value_leaf (d : Int) (b : Nat) (code : List Int) (left : Int) (w : World) (hM : Mk w b code left) (hc : okB code) (K : Int) (hK : 0 ≤ K ∧ K < 6) (hr : Rule K d (wrap64 (left - 1)) (byteF code).1) :
    Calls Try.prog 13 #[.pointer (some ⟨b, 0, none⟩), .int .i64 d] w (Says b w ((leafV K code left).1, (leafV K code left).2.1) (leafV K code left).2.2) := by
  show Calls Try.prog 13 _ w (Says b w (leafF K (byteF code).2) (wrap64 (left - 1)))
  have h : K = 0 ∨ K = 1 ∨ K = 2 ∨ K = 3 ∨ K = 4 ∨ K = 5 := by omega
  rcases h with rfl | rfl | rfl | rfl | rfl | rfl
  · exact value_leaf0 d b code left w hM hc hr
  · exact value_leaf1 d b code left w hM hc hr
  · exact value_leaf2 d b code left w hM hc hr
  · exact value_leaf3 d b code left w hM hc hr
  · exact value_leaf4 d b code left w hM hc hr
  · exact value_leaf5 d b code left w hM hc hr
theorem itemsA_ok {g : List Int → Int → S26 × List Int × Int} (hg : ∀ c l, okB c → okB (g c l).2.1) : ∀ (n : Nat) (c : List Int) (l : Int) (xs : List S26), okB c → okB (itemsA g n c l xs).2.1
  | 0, c, l, xs, h => h
  | n + 1, c, l, xs, h => itemsA_ok hg n _ _ _ (hg c l h)
theorem itemsO_ok {g : List Int → Int → S26 × List Int × Int} (hg : ∀ c l, okB c → okB (g c l).2.1) : ∀ (n : Nat) (c : List Int) (l : Int) (ns : List ByteArray) (xs : List S26), okB c → okB (itemsO g n c l ns xs).2.1
  | 0, c, l, ns, xs, h => h
  | n + 1, c, l, ns, xs, h => by
    unfold itemsO
    split
    · exact itemsO_ok hg n _ _ _ _ (wordF_ok h)
    · exact itemsO_ok hg n _ _ _ _ (hg _ l (wordF_ok h))
theorem leafV_ok {K : Int} {c : List Int} {l : Int} (h : okB c) : okB (leafV K c l).2.1 := leafF_ok (byteF_ok h).1
theorem arrV_ok {g : List Int → Int → S26 × List Int × Int} (hg : ∀ c l, okB c → okB (g c l).2.1) (c : List Int) (l : Int) (h : okB c) : okB (arrV g c l).2.1 := itemsA_ok hg _ _ _ _ (byteF_ok (byteF_ok h).1).1
theorem objV_ok {g : List Int → Int → S26 × List Int × Int} (hg : ∀ c l, okB c → okB (g c l).2.1) (c : List Int) (l : Int) (h : okB c) : okB (objV g c l).2.1 := itemsO_ok hg _ _ _ _ _ (byteF_ok (byteF_ok h).1).1
theorem valF_ok : ∀ (f : Nat), f ≤ 6 → VOk (6 - (f : Int)) (valF f)
  | 0, _ => ⟨fun c l h => leafV_ok h, fun b code left w hM hc => by
      have h := (byteF_ok hc).2
      exact value_leaf _ b code left w hM hc _ (by omega) (.inl ⟨by omega, rfl⟩)⟩
  | f + 1, hf => by
    have ih := valF_ok f (by omega)
    have hd : (6 : Int) - ((f + 1 : Nat) : Int) + 1 = 6 - (f : Int) := by omega
    constructor
    · intro c l h
      unfold valF
      split
      · exact leafV_ok h
      · split
        · exact leafV_ok h
        · split
          · exact arrV_ok ih.1 c l h
          · exact objV_ok ih.1 c l h
    · intro b code left w hM hc
      have h := (byteF_ok hc).2
      unfold valF
      by_cases h1 : wrap64 (left - 1) ≤ 0
      · rw [if_pos h1]
        exact value_leaf _ b code left w hM hc _ (by omega) (.inr (.inl ⟨by omega, h1, rfl⟩))
      · rw [if_neg h1]
        by_cases h2 : (byteF code).1 % 12 < 6
        · rw [if_pos h2]
          exact value_leaf _ b code left w hM hc _ (by omega) (.inr (.inr ⟨by omega, by omega, rfl⟩))
        · rw [if_neg h2]
          by_cases h3 : (byteF code).1 % 12 < 9
          · rw [if_pos h3]
            exact value_arr _ (valF f) (by rw [hd]; exact ih) (by omega) b code left w hM hc (by omega) (by omega)
          · rw [if_neg h3]
            exact value_obj _ (valF f) (by rw [hd]; exact ih) (by omega) b code left w hM hc (by omega) (by omega)
noncomputable def jsF (l0 : List Int) : S26 := (valF 6 l0 40).1
open Classical in
noncomputable def laws_jsOf.f (l0 : List Int) : Option (Int × Int × ByteArray × List ByteArray × List S26) := if okB l0 then some ((jsF l0).f0, (jsF l0).f1, (jsF l0).f2, (jsF l0).f3, (jsF l0).f4) else none
theorem laid_ok {A0 : Option Addr} {c0 : Nat} {l0 : List Int} {w : World} (hr0 : Kd.C (Kd.int .u8) w A0 l0.length l0) (hc0 : l0.length ≤ c0) :
    Mk ((w.alloc (.cells #[.int .i64 0, .int .i64 0, .string ⟨#[]⟩, .slice none 0 0, .slice none 0 0] 26)).alloc (.cells #[.slice A0 l0.length c0, .int .i64 40] 45)) (w.heap.size + 1) l0 40 ∧
    Zr ((w.alloc (.cells #[.int .i64 0, .int .i64 0, .string ⟨#[]⟩, .slice none 0 0, .slice none 0 0] 26)).alloc (.cells #[.slice A0 l0.length c0, .int .i64 40] 45)) w.heap.size ∧
    Below w.heap.size w ((w.alloc (.cells #[.int .i64 0, .int .i64 0, .string ⟨#[]⟩, .slice none 0 0, .slice none 0 0] 26)).alloc (.cells #[.slice A0 l0.length c0, .int .i64 40] 45)) := by
  have h1 := heap_alloc_new w (.cells #[.int .i64 0, .int .i64 0, .string ⟨#[]⟩, .slice none 0 0, .slice none 0 0] 26)
  have hb1 := below_alloc (Below.refl w.heap.size w) (.cells #[.int .i64 0, .int .i64 0, .string ⟨#[]⟩, .slice none 0 0, .slice none 0 0] 26)
  have hs1 : (w.alloc (.cells #[.int .i64 0, .int .i64 0, .string ⟨#[]⟩, .slice none 0 0, .slice none 0 0] 26)).heap.size = w.heap.size + 1 := by simp
  generalize w.alloc (.cells #[.int .i64 0, .int .i64 0, .string ⟨#[]⟩, .slice none 0 0, .slice none 0 0] 26) = w1 at *
  have h2 := heap_alloc_new w1 (.cells #[.slice A0 l0.length c0, .int .i64 40] 45)
  have hb2 := below_alloc (Below.refl w1.heap.size w1) (.cells #[.slice A0 l0.length c0, .int .i64 40] 45)
  have hb := below_alloc hb1 (.cells #[.slice A0 l0.length c0, .int .i64 40] 45)
  generalize w1.alloc (.cells #[.slice A0 l0.length c0, .int .i64 40] 45) = w2 at *
  rw [hs1] at h2 hb2
  refine ⟨⟨A0, c0, h2, hc0, Kd.C_below hr0 hb, fun ad e hn => ?_⟩, (hb2.block _ (by omega)).trans h1, hb⟩
  obtain ⟨ad', e', hc⟩ := (Kd.reads_of_C (d := (0 : Int)) hr0).2.2 hn
  obtain rfl : ad = ad' := Option.some.inj (e.symm.trans e')
  have := World.block_lt_of_cell? _ _ (hc 0 hn)
  rw [add_block] at this
  omega
theorem laws_jsOf.calls (A0 : Option Addr) (c0 : Nat) (l0 : List Int) (r1 : Int) (r2 : Int) (r3 : ByteArray) (r4 : List ByteArray) (r5 : List S26) (w : World) (hr0 : Kd.C (Kd.int .u8) w A0 l0.length l0) (hc0 : l0.length ≤ c0) (h : laws_jsOf.f l0 = some (r1, r2, r3, r4, r5)) :
    Calls Try.prog 5 #[.slice A0 l0.length c0] w fun e w' => ∃ v3_ v4_ : Value, e = .returned (.agg #[.int .i64 r1, .int .i64 r2, .string r3, v3_, v4_]) ∧ Kd.R Kd.string 9 w' w.heap.size (fun _ => True) v3_ r4 ∧ Kd.R k26 26 w' w.heap.size (fun k_ => some k_ ≠ (v3_ : Value).ownBlock) v4_ r5 ∧ Below w.heap.size w w' := by
  unfold laws_jsOf.f at h
  by_cases hok : okB l0
  · rw [if_pos hok] at h
    cases h
    have H := Aside0.mk (fun b W hM => (valF_ok 6 (by omega)).2 b l0 40 W hM hok)
    have HR := Aside0.mk hr0
    show Calls Try.prog 5 #[.slice A0 l0.length c0] w fun e w' => ∃ v3_ v4_ : Value, e = .returned (.agg #[.int .i64 (valF 6 l0 40).1.f0, .int .i64 (valF 6 l0 40).1.f1, .string (valF 6 l0 40).1.f2, v3_, v4_]) ∧ Kd.R Kd.string 9 w' w.heap.size (fun _ => True) v3_ (valF 6 l0 40).1.f3 ∧ Kd.R k26 26 w' w.heap.size (fun k_ => some k_ ≠ (v3_ : Value).ownBlock) v4_ (valF 6 l0 40).1.f4 ∧ Below w.heap.size w w'
    generalize (valF 6 l0 40) = R at *
    clear hok hr0
    have h60 : (6 : Int) - ((6 : Nat) : Int) = 0 := rfl
    rw [h60] at H
    obtain ⟨hM, hZ, hB⟩ := laid_ok HR.out hc0
    have HM := Aside0.mk hM
    have HZ := Aside0.mk hZ
    have HB := Aside0.mk hB
    clear hM hZ hB
    go_enter Try.func5, Try.ntmps5
    go_wp2_with fail
    refine (H.out _ _ HM.out).mono ?_
    rintro e w3 ⟨v, rfl, ⟨v3, v4, rfl, hr3, hr4⟩, hM3, hm3⟩
    have hz3 : Zr w3 w.heap.size := hm3.2.blk HZ.out (by omega) (by simp)
    have hb3 : Below w.heap.size w w3 := HB.out.trans (hm3.1.mono (by omega))
    have hs2 : ((w.alloc (.cells #[.int .i64 0, .int .i64 0, .string ⟨#[]⟩, .slice none 0 0, .slice none 0 0] 26)).alloc (.cells #[.slice A0 l0.length c0, .int .i64 40] 45)).heap.size = w.heap.size + 2 := by simp
    obtain ⟨A3, k3, rfl⟩ := Kd.R_slice hr3
    obtain ⟨A4, k4, rfl⟩ := Kd.R_slice hr4
    rw [hs2] at hr3 hr4
    obtain ⟨⟨m0, m1, m2, m3, m4⟩, n0, n1, n2, n3, n4⟩ := hz3.cells
    have HZ3 := Aside0.mk hz3
    have HB3 := Aside0.mk hb3
    have HR3 := Aside0.mk hr3
    have HR4 := Aside0.mk hr4
    clear hz3 hb3 hr3 hr4 hM3 hm3 HM HZ HB H
    go_wp2_with fail
    refine bodyPost_ret (results_cell_row rfl _ _ w.heap.size 26 #[.int .i64 R.1.f0, .int .i64 R.1.f1, .string R.1.f2, .slice A3 R.1.f3.length k3, .slice A4 R.1.f4.length k4] (0, 0) _ rfl (blk5 HZ3.out _ _ _ _ _) Try.underlying26 rfl (by kernel_rfl)) rfl ?_
    refine ⟨_, _, rfl, Kd.R_lower (R_past5 HR3.out (by omega) _ _ _ _ _) (by omega), Kd.R_lower (R_past5 HR4.out (by omega) _ _ _ _ _) (by omega), ?_⟩
    exact below_set (below_set (below_set (below_set (below_set HB3.out (Nat.le_refl _)) (Nat.le_refl _)) (Nat.le_refl _)) (Nat.le_refl _)) (Nat.le_refl _)
  · rw [if_neg hok] at h
    cases h

end Go.Proofs.Ytlhaifbmacndeaa.PJS
