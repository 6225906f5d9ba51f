/-
  The walk of function.Soundex at a word of letters.
-/
import Derived.Test.YthicaehcoingeaaDoorQSa
namespace Go.Proofs.YthicaehcoingeaaDoor.PTS
open Go.RowKit Go.Proofs.YthicaehcoingeaaDoorW.PrintWords Go.Proofs.YthicaehcoingeaaDoorW.PrintLast Go.Proofs.YthicaehcoingeaaDoorW.PrintMore
set_option linter.unusedVariables false
set_option linter.unusedSimpArgs false
set_option maxRecDepth 100000

theorem caps_at {s : ByteArray} (h : Caps s.data.toList) {n : Nat} (hn : n < s.size) : 65 ≤ s[n].toNat ∧ s[n].toNat ≤ 90 := by
  have e : s.data.toList[n]'(by exact hn) = s[n] := rfl
  rw [← e]; exact h _ (List.getElem_mem _)

theorem Sx.later {w wr w' : World} {K : Nat} {s : ByteArray} {pos : Nat} {last l2 : Int} {acc a2 : List UInt8} (h : Sx w K s pos last acc wr) (hp : pos < s.size) (hK : w.heap.size < K)
    (hst : sxStep (last, acc) s[pos] = (l2, a2)) (ha : a2.length ≤ acc.length + 1) (hb : Lib.IsBuilderF 131 5 w.heap.size w.heap.size (Lib.byteCells a2) w')
    (hw : Below w.heap.size (wr.iterAt K s (pos + 1)) w') (hi : w'.heap[K]? = some (.stringIter s (pos + 1))) : Sx w K s (pos + 1) l2 a2 w' := by
  refine ⟨hb, hi, (Lib.below_iterAt h.below (by omega) s (pos + 1)).trans hw, ?_, by omega, by have := h.len; omega⟩
  have := sxFold_take s.data.toList pos hp
  rw [this, h.st, ← hst]
  rfl
theorem Sx.buf2 {w wr : World} {K : Nat} {s : ByteArray} {pos : Nat} {last : Int} {acc : List UInt8} (h : Sx w K s pos last acc wr) : Lib.IsBuilderF 131 5 w.heap.size w.heap.size (Lib.byteCells acc) (wr.iterAt K s (pos + 1)) := h.buf.iterAt h.it _

theorem Sx.bound {w wr : World} {K : Nat} {s : ByteArray} {pos : Nat} {last : Int} {acc : List UInt8} (h : Sx w K s pos last acc wr) (hs : s.size ≤ 1000) : (Lib.byteCells acc).length + 4 ≤ 140737488355328 := by
  rw [Lib.byteCells_length]
  have := h.len; have := h.le
  omega
theorem Sx.size {w wr : World} {K : Nat} {s : ByteArray} {pos : Nat} {last : Int} {acc : List UInt8} (h : Sx w K s pos last acc wr) : w.heap.size ≤ (wr.iterAt K s (pos + 1)).heap.size := by
  rw [Lib.iterAt_size]
  exact h.below.size

theorem soundex_ok (a s : ByteArray) (w : World) (hg : Glob w) (hu : (⟨(Lib.toUpperA a.data.toList).toArray⟩ : ByteArray) = s) (hc : Caps s.data.toList) (h0 : 0 < s.size) (hl : s.size ≤ 1000) (hz : a.size ≤ 1000) (hasc : ∀ (j : Nat) (b : UInt8), a.data.toList[j]? = some b → b.toNat < 128) :
    Calls Tryd.prog 65 #[.string a] w fun e w' => e = .returned (.string ⟨(pad4 (sxFold s.data.toList).2).toArray⟩) ∧ Below w.heap.size w w' := by
  have HG := Aside0.mk hg
  have HU := Aside0.mk hu
  have HC := Aside0.mk hc
  have HA := Aside0.mk hasc
  have HL := Aside0.mk hl
  clear hg hu hc hasc hl
  go_enter Tryd.func65, Tryd.ntmps65
  go_wp2_with fail
  refine (Tryd.strings_ToUpper_ascii a _ (by omega) HA.out).mono ?_
  rintro e w2 ⟨rfl, hb2⟩
  rw [HU.out]
  have HB := Aside0.mk (fresh_far hb2)
  have HW := Aside0.mk (below_then (below_alloc (Below.refl _ w) _) (by simp) hb2)
  have HK := Aside0.mk (show w.heap.size < w2.heap.size by have := hb2.size; simp at this; omega)
  clear hb2
  go_wp2_with fail
  go_loopw [4] (fun l wr => ∃ (pos : Nat) (last : Int) (acc : List UInt8), l = .int .i32 last ∧ Aside0 (Sx w w2.heap.size s pos last acc wr)) (fun _ wr => s.size - wr.iterPos w2.heap.size)
  case atStart =>
    refine ⟨0, 0, [], rfl, ⟨⟨HB.out.alloc _, heap_alloc_new _ _, below_alloc HW.out _, rfl, Nat.zero_le _, Nat.le_refl _⟩⟩⟩
  case round =>
    obtain ⟨pos, last, acc, rfl, HX⟩ := hrel
    clear HB HW
    by_cases hp : pos < s.size
    · have hcap := caps_at HC.out hp
      have hnx : ∀ ty, (Instr.next (.pointer (some ⟨w2.heap.size, 0, none⟩)) true ty).run Tryd.prog wr = .ok (.tuple #[.bool true, .int .i64 pos, .int .i32 (s[pos].toNat : Int)]) (wr.iterAt w2.heap.size s (pos + 1)) := fun ty => Lib.run_next_ascii_at wr w2.heap.size s pos ty HX.out.it hp (by omega)
      have hr := sxCode_range (s[pos].toNat : Int)
      have HL1 := sxFold_last (s.data.toList.take pos)
      rw [HX.out.st] at HL1
      have HGL := Aside0.mk (HG.out.later (Lib.below_iterAt HX.out.below (by have := HK.out; omega) s (pos + 1)) : Glob (wr.iterAt w2.heap.size s (pos + 1)))
      by_cases h00 : pos = 0
      · subst h00
        obtain rfl : last = 0 := HL1.1 (by simp)
        clear HL1
        have HS := Aside0.mk (show sxStep (0, acc) s[0] = (sxCode (s[0].toNat : Int), acc ++ [s[0]]) by unfold sxStep; rw [if_pos rfl])
        go_wp2_with fail
        refine (letter_ok _ (by omega) (by omega) _ HGL.out).mono ?_
        rintro e w' ⟨rfl, rfl⟩
        go_wp2_with fail
        refine (code_ok _ (by omega) (by omega) _).mono ?_
        rintro e w' ⟨rfl, rfl⟩
        go_wp2_with fail
        refine (Tryd.Builder_WriteRune_k w.heap.size w.heap.size _ _ (by omega) (by omega) _ HX.out.buf2 (HX.out.bound HL.out) HX.out.size).mono ?_
        rintro e w5 ⟨rfl, h5, b5, k5⟩
        rw [one_rune _ (by omega) (by omega)] at h5
        have e5 : UInt8.ofNat ((s[0].toNat : Int)).toNat = s[0] := by apply UInt8.toNat_inj.1; simp
        rw [e5] at h5
        have HY := Aside0.mk (HX.out.later hp HK.out HS.out (by simp) (Or.inr h5) b5 (k5.iter (Lib.iterAt_heap wr w2.heap.size s 0 1 HX.out.it) (by have := HK.out; omega)))
        have hp5 : w5.iterPos w2.heap.size = 1 := by simp only [World.iterPos, HY.out.it]
        have hp6 : wr.iterPos w2.heap.size = 0 := by simp only [World.iterPos, HX.out.it]
        clear HS h5 b5 k5 e5 HX HGL
        go_wp2_with fail
        go_roundw
        case rel => exact ⟨1, _, _, rfl, HY⟩
        case measure => rw [hp5, hp6]; omega
      · obtain ⟨hl1, hl2, hne⟩ := HL1.2 (by intro q; have q2 := congrArg List.length q; rw [List.length_take] at q2; have : s.data.toList.length = s.size := rfl; simp only [List.length_nil] at q2; omega)
        clear HL1
        simp only at hl1 hl2 hne
        generalize hk : sxCode (s[pos].toNat : Int) = k at hr
        have hl0 : (last == 0) = false := by simp; omega
        by_cases hkk : k = 48 ∨ k = last
        · have HS := Aside0.mk (show sxStep (last, acc) s[pos] = (last, acc) by unfold sxStep; rw [if_neg (by simp; omega), hk]; exact if_pos hkk)
          have HY := Aside0.mk (HX.out.later hp HK.out HS.out (by simp) HX.out.buf2 (Below.refl _ _) (Lib.iterAt_heap wr w2.heap.size s pos (pos + 1) HX.out.it))
          have hp5 : (wr.iterAt w2.heap.size s (pos + 1)).iterPos w2.heap.size = pos + 1 := by simp only [World.iterPos, HY.out.it]
          have hp6 : wr.iterPos w2.heap.size = pos := by simp only [World.iterPos, HX.out.it]
          by_cases hk1 : k = 48
          · have hk2 : (k == 48) = true := by simpa using hk1
            clear hkk HS HX HGL
            go_wp2_with fail
            refine (code_ok _ (by omega) (by omega) _).mono ?_
            rintro e w' ⟨rfl, rfl⟩
            rw [hk]
            clear hk
            go_wp2_with fail
            go_roundw
            case rel => exact ⟨pos + 1, _, _, rfl, HY⟩
            case measure => rw [hp5, hp6]; omega
          · obtain rfl : k = last := hkk.resolve_left hk1
            have hk2 : (k == 48) = false := by simpa using hk1
            clear hkk HS HX HGL
            go_wp2_with fail
            refine (code_ok _ (by omega) (by omega) _).mono ?_
            rintro e w' ⟨rfl, rfl⟩
            rw [hk]
            clear hk
            go_wp2_with fail
            go_roundw
            case rel => exact ⟨pos + 1, _, _, rfl, HY⟩
            case measure => rw [hp5, hp6]; omega
        · have HS := Aside0.mk (show sxStep (last, acc) s[pos] = (k, acc ++ [UInt8.ofNat k.toNat]) by unfold sxStep; rw [if_neg (by simp; omega), hk]; exact if_neg hkk)
          have hk2 : (k == 48) = false := by simp; omega
          have hk3 : (k == last) = false := by simp; omega
          clear hkk
          go_wp2_with fail
          refine (code_ok _ (by omega) (by omega) _).mono ?_
          rintro e w' ⟨rfl, rfl⟩
          rw [hk]
          clear hk
          go_wp2_with fail
          refine (Tryd.Builder_WriteRune_k w.heap.size w.heap.size _ _ (by omega) (by omega) _ HX.out.buf2 (HX.out.bound HL.out) HX.out.size).mono ?_
          rintro e w5 ⟨rfl, h5, b5, k5⟩
          rw [one_rune _ (by omega) (by omega)] at h5
          have HY := Aside0.mk (HX.out.later hp HK.out HS.out (by simp) (Or.inr h5) b5 (k5.iter (Lib.iterAt_heap wr w2.heap.size s pos (pos + 1) HX.out.it) (by have := HK.out; omega)))
          have hp5 : w5.iterPos w2.heap.size = pos + 1 := by simp only [World.iterPos, HY.out.it]
          have hp6 : wr.iterPos w2.heap.size = pos := by simp only [World.iterPos, HX.out.it]
          clear HS h5 b5 k5 HX HGL
          go_wp2_with fail
          go_roundw
          case rel => exact ⟨pos + 1, _, _, rfl, HY⟩
          case measure => rw [hp5, hp6]; omega
    · obtain rfl : pos = s.size := by have := HX.out.le; omega
      have hnx : ∀ ty, (Instr.next (.pointer (some ⟨w2.heap.size, 0, none⟩)) true ty).run Tryd.prog wr = .ok (.tuple #[.bool false]) wr := fun ty => Lib.run_next_end_at wr w2.heap.size s s.size ty HX.out.it (by omega)
      have hst := HX.out.st
      have et : s.data.toList.take s.size = s.data.toList := List.take_length
      rw [et] at hst
      have hne := ((sxFold_last s.data.toList).2 (by intro q; have q2 := congrArg List.length q; have : s.data.toList.length = s.size := rfl; simp only [List.length_nil] at q2; omega)).2.2
      have has := sxFold_ascii s.data.toList HC.out
      rw [hst] at hne has
      simp only at hne has
      have HF := Aside0.mk (congrArg (·.2) hst)
      have hb1 := Aside0.mk HX.out.buf
      have hw1 := Aside0.mk HX.out.below
      have hal : 0 < acc.length ∧ acc.length ≤ 1000 := ⟨List.length_pos_iff.2 hne, by have := HX.out.len; have := HL.out; omega⟩
      have hal0 : ((acc.length : Int) == 0) = false := by simp; omega
      clear hst et hne HX HL
      go_wp2_with fail
      refine (Tryd.Builder_Len_f w.heap.size w.heap.size _ _ hb1.out).mono ?_
      rintro e w' ⟨rfl, rfl⟩
      rw [Lib.byteCells_length]
      go_wp2_with fail
      refine (Tryd.Builder_String_any_k w.heap.size w.heap.size acc _ hb1.out (hw1.out.size)).mono ?_
      rintro e w3 ⟨rfl, hb3, b3, _⟩
      obtain ⟨cap, cs, hcv⟩ := conv_runes ⟨acc.toArray⟩ (by intro i hi; exact has _ (by show acc.toArray[i] ∈ acc; simp)) hal.2 w3
      have es : (⟨acc.toArray⟩ : ByteArray).size = acc.length := by show acc.toArray.size = _; simp
      rw [es] at hcv
      have HB := Aside0.mk hb3
      have HW := Aside0.mk (hw1.out.trans b3)
      clear hb3 b3 hb1 hw1 hnx es
      go_wp2_with fail
      go_loopw [8] (fun i wr => ∃ (n : Nat), acc.length ≤ n ∧ (n ≤ 4 ∨ n = acc.length) ∧ i = .int .i64 n ∧ Aside0 (Lib.IsBuilderF 131 5 w.heap.size w.heap.size (Lib.byteCells (acc ++ List.replicate (n - acc.length) 48)) wr ∧ Below w.heap.size w wr)) (fun i _ => 4 - (intOf i).toNat)
      case atStart =>
        refine ⟨acc.length, Nat.le_refl _, Or.inr rfl, rfl, ⟨?_, ?_⟩⟩
        · have e := HB.out.alloc (.cells cs 21)
          simp only [Nat.sub_self, List.replicate_zero, List.append_nil]
          exact e
        · exact below_alloc (pw_below_drewN HW.out 1) _
      case round =>
        obtain ⟨n, hn1, hn2, rfl, HY⟩ := hrel
        clear HB HW hcv
        by_cases h4 : n < 4
        · go_wp2_with fail
          refine (Tryd.Builder_WriteRune_k w.heap.size w.heap.size _ _ (by omega) (by omega) _ HY.out.1 (by rw [Lib.byteCells_length]; simp; omega) (HY.out.2.size)).mono ?_
          rintro e w5 ⟨rfl, h5, b5, _⟩
          rw [one_rune _ (by omega) (by omega)] at h5
          have e5 : acc ++ List.replicate (n - acc.length) 48 ++ [UInt8.ofNat (48 : Int).toNat] = acc ++ List.replicate (n + 1 - acc.length) 48 := by
            rw [show n + 1 - acc.length = (n - acc.length) + 1 by omega, List.replicate_succ']
            simp
          rw [e5] at h5
          have HZ := Aside0.mk (And.intro (Or.inr h5 : Lib.IsBuilderF 131 5 w.heap.size w.heap.size (Lib.byteCells (acc ++ List.replicate (n + 1 - acc.length) 48)) w5) (HY.out.2.trans b5))
          clear e5 h5 b5 HY
          go_wp2_with fail
          go_roundw
          case rel => exact ⟨n + 1, by omega, Or.inl (by omega), by go_num, HZ⟩
          case measure => simp [intOf]; omega
        · go_wp2_with fail
          refine (Tryd.Builder_String_any_k w.heap.size w.heap.size _ _ HY.out.1 (HY.out.2.size)).mono ?_
          rintro e w5 ⟨rfl, _, b5, _⟩
          have HZ := Aside0.mk (HY.out.2.trans b5)
          have e6 : acc ++ List.replicate (n - acc.length) 48 = pad4 (sxFold s.data.toList).2 := by
            rw [HF.out]
            unfold pad4
            rcases hn2 with h | h
            · rw [show n = 4 by omega]
            · rw [h, show acc.length - acc.length = 0 by omega, show 4 - acc.length = 0 by omega]
          rw [e6]
          clear e6 b5 HY
          go_wp2
          go_ret
          exact ⟨rfl, HZ.out⟩
end Go.Proofs.YthicaehcoingeaaDoor.PTS
