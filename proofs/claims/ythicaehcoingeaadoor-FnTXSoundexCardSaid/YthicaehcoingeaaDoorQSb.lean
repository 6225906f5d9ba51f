/-
  What impl.TXSoundex answers, in the form in which the printed text asks for it. Condition: a word of from 1 to 1000 letters.
-/
import Derived.Test.YthicaehcoingeaaDoorQSw
namespace Go.Proofs.YthicaehcoingeaaDoor.PTS
open Go.RowKit Go.Proofs.YthicaehcoingeaaDoorW.PrintWords Go.Proofs.YthicaehcoingeaaDoorW.PrintLast Go.Proofs.YthicaehcoingeaaDoorW.PrintMore
set_option linter.unusedVariables false
set_option linter.unusedSimpArgs false
set_option maxRecDepth 100000

def letters (l : List UInt8) : Bool := l.all fun b => (decide (65 ≤ b.toNat) && decide (b.toNat ≤ 90)) || (decide (97 ≤ b.toNat) && decide (b.toNat ≤ 122))
theorem caps_upper (l : List UInt8) (h : letters l = true) : Caps (Lib.toUpperA l) := by
  intro b hb
  unfold Lib.toUpperA at hb
  obtain ⟨x, hx, rfl⟩ := List.mem_map.1 hb
  have hall : ∀ k : Fin 256, ((decide (65 ≤ k.val) && decide (k.val ≤ 90)) || (decide (97 ≤ k.val) && decide (k.val ≤ 122))) = true → 65 ≤ (Lib.upperB (UInt8.ofNat k.val)).toNat ∧ (Lib.upperB (UInt8.ofNat k.val)).toNat ≤ 90 := by decide +kernel
  have h1 := List.all_eq_true.1 h _ hx
  have := hall ⟨x.toNat, x.toNat_lt⟩ h1
  simpa using this
theorem ascii_of (s : ByteArray) (h : letters s.data.toList = true) : ∀ (j : Nat) (b : UInt8), s.data.toList[j]? = some b → b.toNat < 128 := by
  intro j b hj
  have h1 := List.all_eq_true.1 h _ (List.mem_of_getElem? hj)
  simp at h1
  omega

def impl_TXSoundex.f (a0 : ByteArray) : Option (ByteArray) := if (0 < a0.size ∧ a0.size ≤ 1000) ∧ letters a0.data.toList = true then some ⟨(pad4 (sxFold (Lib.toUpperA a0.data.toList)).2).toArray⟩ else none
theorem impl_TXSoundex.calls (a0 : ByteArray) (r : ByteArray) (w : World) (hg : Glob w) (h : impl_TXSoundex.f a0 = some r) :
    Calls Tryd.prog 22 #[.string a0] w fun e w' => e = .returned (.string r) ∧ Below w.heap.size w w' := by
  unfold impl_TXSoundex.f at h
  split at h
  · rename_i hc
    obtain rfl := Option.some.inj h
    have hl : (⟨(Lib.toUpperA a0.data.toList).toArray⟩ : ByteArray).size = a0.size := by
      show ((Lib.toUpperA a0.data.toList).toArray).size = _
      have : a0.data.toList.length = a0.size := rfl
      simp [Lib.toUpperA]
    go_enter Tryd.func22, Tryd.ntmps22
    go_wp2_with (go_at_call 65; refine (soundex_ok a0 _ _ hg rfl (caps_upper _ hc.2) (by rw [hl]; exact hc.1.1) (by rw [hl]; exact hc.1.2) hc.1.2 (ascii_of _ hc.2)).mono ?_; rintro e w' ⟨rfl, hb⟩)
    go_ret
    exact ⟨rfl, hb⟩
  · cases h
end Go.Proofs.YthicaehcoingeaaDoor.PTS
